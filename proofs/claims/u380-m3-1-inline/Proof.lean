import JvmDerived
import JvmDerived.Pilot.@@N@@Statement
import JvmDerived.Pilot.@@N@@Code
set_option linter.unusedVariables false
set_option linter.unusedSimpArgs false
/- laws to paste: Road.backV, Road.chN, Road.codOf (cut by pick.py; bodies as the Statement names them) -/
namespace Jvm.Pilot.@@N@@
namespace StrChars
open Jvm Sem ClassFile Op Lib Jvm.Stand Jvm.Free.XT Jvm.Free.ALB Jvm.Free.JM Jvm.Free
open Jvm.Lib.Cold (StaticIs)
/-- a char array whose places are chars -/
def Ch (a : Addr) (A : Cell) (U : State) : Prop := Arr .char a A U ∧ Typed .char A
theorem Ch.mv {a : Addr} {A : Cell} {U U' : State} (h : Ch a A U) (hal : U.vm.Alike U'.vm) (hh : U'.heap = U.heap) : Ch a A U' := ⟨h.1.mv hal hh, h.2⟩
theorem Ch.keep {a : Addr} {A : Cell} {U U' : State} (h : Ch a A U) (hal : U.vm.Alike U'.vm) (hk : U'.heap[a]? = some A) : Ch a A U' := ⟨h.1.keep hal hk, h.2⟩
/-- what place i of a char[]'s cell holds -/
def cv (A : Cell) (i : Nat) : Int32 := match A.slots[i]? with | some (.int x) => x | _ => 0
theorem Ch.get {a : Addr} {A : Cell} {U : State} (h : Ch a A U) {i : Nat} (hi : i < A.slots.size) : A.slots[i]? = some (.int (cv A i)) := by
  have e := Array.getElem?_eq_getElem hi
  have f := h.2 i _ e
  unfold cv; rw [e]
  generalize A.slots[i] = v at f
  cases v <;> simp [fits] at f ⊢
/-- the byte that i2b leaves of a char -/
def lo8 (x : Int32) : Int32 := x.toInt8.toInt32
theorem fits_lo8 (y : Int32) : fits .byte (.int (lo8 y)) = true := by
  have h1 := y.toInt8.le_toInt
  have h2 := y.toInt8.toInt_lt
  simp only [lo8, fits, Bool.and_eq_true, decide_eq_true_eq, Int32.le_iff_toInt_le, Int8.toInt_toInt32, show (-128 : Int32).toInt = -128 from by decide, show (127 : Int32).toInt = 127 from by decide]
  omega
/-- A' is A but that each place j of lo .. hi - 1 holds f j -/
def Laid (A A' : Cell) (lo hi : Nat) (f : Nat → Value) : Prop := A'.cls = A.cls ∧ A'.vm = A.vm ∧ A'.slots.size = A.slots.size ∧ ∀ i, A'.slots[i]? = if lo ≤ i ∧ i < hi then some (f i) else A.slots[i]?
theorem Laid.zero (A : Cell) (lo : Nat) (f : Nat → Value) : Laid A A lo (lo + 0) f := ⟨rfl, rfl, rfl, fun i => by rw [if_neg (by omega)]⟩
theorem Laid.step {A Ak : Cell} {lo k : Nat} {f : Nat → Value} {v : Value} (h : Laid A Ak lo k f) (hlo : lo ≤ k) (hk : k < Ak.slots.size) (hv : v = f k) : Laid A (Ak.setSlot k v) lo (k + 1) f := by
  refine ⟨h.1, h.2.1, by simpa [Cell.setSlot] using h.2.2.1, fun i => ?_⟩
  by_cases e : k = i
  · subst e; rw [Cell.slots_setSlot_self v hk, if_pos (by omega), hv]
  · rw [Cell.slots_setSlot_ne v e, h.2.2.2 i]
    by_cases q : lo ≤ i ∧ i < k
    · rw [if_pos q, if_pos (by omega)]
    · rw [if_neg q, if_neg (by omega)]
def U16 : String := "java/lang/StringUTF16"
namespace Cmp5
def yN : MethodName := ⟨"java/lang/StringUTF16", "compress", "([CI[BII)I"⟩
abbrev yB : ByteArray := jdk_52_method_21_code
theorem d0 : decode yB 0 = .ok (.iconst 0, 1) := by decide +kernel
theorem d1 : decode yB 1 = .ok (.istore 5, 2) := by decide +kernel
theorem d3 : decode yB 3 = .ok (.iload 5, 2) := by decide +kernel
theorem d5 : decode yB 5 = .ok (.iload 4, 2) := by decide +kernel
theorem d7 : decode yB 7 = .ok (.if_icmp (.ge) 37, 3) := by decide +kernel
theorem d10 : decode yB 10 = .ok (.aload_n 0, 1) := by decide +kernel
theorem d11 : decode yB 11 = .ok (.iload_n 1, 1) := by decide +kernel
theorem d12 : decode yB 12 = .ok (.caload, 1) := by decide +kernel
theorem d13 : decode yB 13 = .ok (.istore 6, 2) := by decide +kernel
theorem d15 : decode yB 15 = .ok (.iload 6, 2) := by decide +kernel
theorem d17 : decode yB 17 = .ok (.sipush 255, 3) := by decide +kernel
theorem d20 : decode yB 20 = .ok (.if_icmp (.le) 6, 3) := by decide +kernel
theorem d26 : decode yB 26 = .ok (.aload_n 2, 1) := by decide +kernel
theorem d27 : decode yB 27 = .ok (.iload_n 3, 1) := by decide +kernel
theorem d28 : decode yB 28 = .ok (.iload 6, 2) := by decide +kernel
theorem d30 : decode yB 30 = .ok (.i2b, 1) := by decide +kernel
theorem d31 : decode yB 31 = .ok (.bastore, 1) := by decide +kernel
theorem d32 : decode yB 32 = .ok (.iinc 1 1, 3) := by decide +kernel
theorem d35 : decode yB 35 = .ok (.iinc 3 1, 3) := by decide +kernel
theorem d38 : decode yB 38 = .ok (.iinc 5 1, 3) := by decide +kernel
theorem d41 : decode yB 41 = .ok (.goto (-38), 3) := by decide +kernel
theorem d44 : decode yB 44 = .ok (.iload 4, 2) := by decide +kernel
theorem d46 : decode yB 46 = .ok (.ireturn, 1) := by decide +kernel
def site : List Cond := []
def tab : Cond := tabOf yN yB 7 (some .int) site
def P (b : Addr) (A : Cell) (d : Addr) (B : Cell) (o q len : Nat) (args : Array Value) (s : State) : Prop := args = #[.ref b, .int (Int32.ofNat o), .ref d, .int (Int32.ofNat q), .int (Int32.ofNat len)] ∧ Ch b A s ∧ Arr .byte d B s ∧ b ≠ d ∧ o + len ≤ A.slots.size ∧ q + len ≤ B.slots.size ∧ ∀ i, i < len → ¬ 255 < cv A (o + i)
def E (b : Addr) (A : Cell) (d : Addr) (B : Cell) (o q len : Nat) (r : Option Value) (s u : State) : Prop := r = some (.int (Int32.ofNat len)) ∧ ∃ B', Put d B' s u ∧ Laid B B' q (q + len) (fun j => Value.int (lo8 (cv A (o + (j - q)))))
/-- no char of the range above 255: len; the places written hold each char's low byte -/
theorem law (l : Launch) (b : Addr) (A : Cell) (d : Addr) (B : Cell) (o q len : Nat) : Law l yN 5 5 0 0 yB 7 (some .int) site (P b A d B o q len) (E b A d B o q len) (copyLocs d q len) 0 0 := by
  refine Law.of_walk (plainFor_of_name (by decide +kernel)) (by decide +kernel) (by decide +kernel) (by decide) (fun _ _ h => by rw [h.1]; rfl) (fun _ U U' hal hh h => ⟨h.1, h.2.1.mv hal hh, h.2.2.1.mv hal hh, h.2.2.2⟩) (fun r U U' V V' h1 hal h2 h => ⟨h.1, h.2.elim fun B' q => ⟨B', q.1.mv h1 h2, q.2⟩⟩) ?_
  intro p e s m args below meth c s₁ X0 hexec hbytes hml hret hlk hnm hown hh0 W hP
  obtain ⟨rfl, hA, hB, hne, l1, l2, hp⟩ := hP
  have c1 : Steps p.tables e below (s₁.setTop (entryFrame m #[.ref b, .int (Int32.ofNat o), .ref d, .int (Int32.ofNat q), .int (Int32.ofNat len)] 7)) (s₁.setTop (mkF m 0 #[.val (.ref b), .val (.int (Int32.ofNat o)), .val (.ref d), .val (.int (Int32.ofNat q)), .val (.int (Int32.ofNat len)), .unset, .unset] [])) := entry rfl
  have hA0 := hA.1.mv X0.warmed.alike hh0
  have hB0 := hB.mv X0.warmed.alike hh0
  have a31 := hA.1.2.2.2
  have c2 : Steps p.tables e below (s₁.setTop (entryFrame m #[.ref b, .int (Int32.ofNat o), .ref d, .int (Int32.ofNat q), .int (Int32.ofNat len)] 7)) (s₁.setTop (mkF m 3 #[.val (.ref b), .val (.int (Int32.ofNat o)), .val (.ref d), .val (.int (Int32.ofNat q)), .val (.int (Int32.ofNat len)), .val (.int 0), .unset] [])) := c1.trans (by
    refine iconstV X0.here hexec rfl 0 (hb hbytes d0) (by decide) ?_
    refine XS.istore X0.here hexec rfl (hb hbytes d1) rfl rfl ?_
    exact Steps.refl _)
  have loop : ∀ (r i : Nat), i + r = len → ∀ (z : Slot), (z = .unset ∨ ∃ w, z = .val w ∧ w.category = 1) → ∀ (Tl : State) (Bk : Cell), Stand p l e { frames := 0, locals := 0, cells := 0, slots := 0 } s m #[.ref b, .int (Int32.ofNat o), .ref d, .int (Int32.ofNat q), .int (Int32.ofNat len)] below meth c Tl ([] ++ copyLocs d q i) 0 0 → Put d Bk s₁ Tl → Laid B Bk q (q + i) (fun j => Value.int (lo8 (cv A (o + (j - q))))) →
      Steps p.tables e below (s₁.setTop (entryFrame m #[.ref b, .int (Int32.ofNat o), .ref d, .int (Int32.ofNat q), .int (Int32.ofNat len)] 7)) (Tl.setTop (mkF m 3 #[.val (.ref b), .val (.int (Int32.ofNat (o + i))), .val (.ref d), .val (.int (Int32.ofNat (q + i))), .val (.int (Int32.ofNat len)), .val (.int (Int32.ofNat i)), z] [])) → ∃ (T' : State) (B' : Cell) (z' : Slot), Stand p l e { frames := 0, locals := 0, cells := 0, slots := 0 } s m #[.ref b, .int (Int32.ofNat o), .ref d, .int (Int32.ofNat q), .int (Int32.ofNat len)] below meth c T' ([] ++ copyLocs d q len) 0 0 ∧ Put d B' s₁ T' ∧ Laid B B' q (q + len) (fun j => Value.int (lo8 (cv A (o + (j - q))))) ∧
      Steps p.tables e below (s₁.setTop (entryFrame m #[.ref b, .int (Int32.ofNat o), .ref d, .int (Int32.ofNat q), .int (Int32.ofNat len)] 7)) (T'.setTop (mkF m 3 #[.val (.ref b), .val (.int (Int32.ofNat (o + len))), .val (.ref d), .val (.int (Int32.ofNat (q + len))), .val (.int (Int32.ofNat len)), .val (.int (Int32.ofNat len)), z'] [])) := by
    intro r
    induction r with
    | zero =>
      intro i hi z hz Tl Bk Xl pl fl cl
      have hil : i = len := by omega
      rw [hil] at Xl fl cl
      exact ⟨Tl, Bk, z, Xl, pl, fl, cl⟩
    | succ r ih =>
      intro i hi z hz Tl Bk Xl pl fl cl
      have all := X0.warmed.alike.symm.trans Xl.warmed.alike
      have hAl := hA0.keep all (pl.other hne hA0.1)
      have hBk := hB0.like all pl.1 fl.1 fl.2.1 fl.2.2.1
      have hlt : q + i < Bk.slots.size := by rw [fl.2.2.1]; omega
      have c3 : Steps p.tables e below (s₁.setTop (entryFrame m #[.ref b, .int (Int32.ofNat o), .ref d, .int (Int32.ofNat q), .int (Int32.ofNat len)] 7)) (Tl.setTop (mkF m 12 #[.val (.ref b), .val (.int (Int32.ofNat (o + i))), .val (.ref d), .val (.int (Int32.ofNat (q + i))), .val (.int (Int32.ofNat len)), .val (.int (Int32.ofNat i)), z] [.int (Int32.ofNat (o + i)), .ref b])) := cl.trans (by
        refine XS.iload Xl.here hexec rfl (hb hbytes d3) rfl ?_
        refine XS.iload Xl.here hexec rfl (hb hbytes d5) rfl ?_
        refine XS.icmpNo Xl.here hexec rfl (hb hbytes d7) rfl (ii_ge_f (lt32 (by omega) (by omega))) ?_
        refine XS.aloadN Xl.here hexec rfl (hb hbytes d10) rfl rfl ?_
        refine XS.iloadN Xl.here hexec rfl (hb hbytes d11) rfl ?_
        exact Steps.refl _)
      have c4 : Steps p.tables e below (s₁.setTop (entryFrame m #[.ref b, .int (Int32.ofNat o), .ref d, .int (Int32.ofNat q), .int (Int32.ofNat len)] 7)) (Tl.setTop (mkF m 13 #[.val (.ref b), .val (.int (Int32.ofNat (o + i))), .val (.ref d), .val (.int (Int32.ofNat (q + i))), .val (.int (Int32.ofNat len)), .val (.int (Int32.ofNat i)), z] [.int (cv A (o + i))])) := c3.trans (by
        refine Xl.aget hexec hAl rfl (hA.get (i := o + i) (by omega)) rfl rfl (hb hbytes d12) ?_
        exact Steps.refl _)
      have c5 : Steps p.tables e below (s₁.setTop (entryFrame m #[.ref b, .int (Int32.ofNat o), .ref d, .int (Int32.ofNat q), .int (Int32.ofNat len)] 7)) (Tl.setTop (mkF m 15 #[.val (.ref b), .val (.int (Int32.ofNat (o + i))), .val (.ref d), .val (.int (Int32.ofNat (q + i))), .val (.int (Int32.ofNat len)), .val (.int (Int32.ofNat i)), .val (.int (cv A (o + i)))] [])) := c4.trans (by
        refine XS.istoreS Xl.here hexec rfl (hb hbytes d13) rfl rfl hz ?_
        exact Steps.refl _)
      have c6 : Steps p.tables e below (s₁.setTop (entryFrame m #[.ref b, .int (Int32.ofNat o), .ref d, .int (Int32.ofNat q), .int (Int32.ofNat len)] 7)) (Tl.setTop (mkF m 31 #[.val (.ref b), .val (.int (Int32.ofNat (o + i))), .val (.ref d), .val (.int (Int32.ofNat (q + i))), .val (.int (Int32.ofNat len)), .val (.int (Int32.ofNat i)), .val (.int (cv A (o + i)))] [.int (lo8 (cv A (o + i))), .int (Int32.ofNat (q + i)), .ref d])) := c5.trans (by
        refine XS.iload Xl.here hexec rfl (hb hbytes d15) rfl ?_
        refine sipushV Xl.here hexec rfl 255 (hb hbytes d17) (by decide) ?_
        refine XS.icmpYes Xl.here hexec rfl (pc0 := 20) rfl (hb hbytes d20) rfl (ii_le_t (hp i (by omega))) (by decide) rfl ?_
        refine XS.aloadN Xl.here hexec rfl (hb hbytes d26) rfl rfl ?_
        refine XS.iloadN Xl.here hexec rfl (hb hbytes d27) rfl ?_
        refine XS.iload Xl.here hexec rfl (hb hbytes d28) rfl ?_
        refine i2b Xl.here hexec rfl (hb hbytes d30) rfl ?_
        exact Steps.refl _)
      obtain ⟨T7, X7, p7, st7⟩ := Xl.aput hexec hBk rfl hlt rfl (fits_lo8 (cv A (o + i))) (g := (mkF m 31 #[.val (.ref b), .val (.int (Int32.ofNat (o + i))), .val (.ref d), .val (.int (Int32.ofNat (q + i))), .val (.int (Int32.ofNat len)), .val (.int (Int32.ofNat i)), .val (.int (cv A (o + i)))] [.int (lo8 (cv A (o + i))), .int (Int32.ofNat (q + i)), .ref d])) rfl (rest := []) rfl (hb hbytes d31)
      have c8 : Steps p.tables e below (s₁.setTop (entryFrame m #[.ref b, .int (Int32.ofNat o), .ref d, .int (Int32.ofNat q), .int (Int32.ofNat len)] 7)) (T7.setTop (mkF m 32 #[.val (.ref b), .val (.int (Int32.ofNat (o + i))), .val (.ref d), .val (.int (Int32.ofNat (q + i))), .val (.int (Int32.ofNat len)), .val (.int (Int32.ofNat i)), .val (.int (cv A (o + i)))] [])) := c6.trans (st7 _ (Steps.refl _))
      have c9 : Steps p.tables e below (s₁.setTop (entryFrame m #[.ref b, .int (Int32.ofNat o), .ref d, .int (Int32.ofNat q), .int (Int32.ofNat len)] 7)) (T7.setTop (mkF m 3 #[.val (.ref b), .val (.int (Int32.ofNat (o + i) + 1)), .val (.ref d), .val (.int (Int32.ofNat (q + i) + 1)), .val (.int (Int32.ofNat len)), .val (.int (Int32.ofNat i + 1)), .val (.int (cv A (o + i)))] [])) := c8.trans (by
        refine iincV X7.here hexec rfl 1 (hb hbytes d32) (by decide) rfl rfl ?_
        refine iincV X7.here hexec rfl 1 (hb hbytes d35) (by decide) rfl rfl ?_
        refine iincV X7.here hexec rfl 1 (hb hbytes d38) (by decide) rfl rfl ?_
        refine XS.goto X7.here hexec rfl (pc0 := 41) rfl (hb hbytes d41) (by decide) rfl ?_
        exact Steps.refl _)
      have c10 : Steps p.tables e below (s₁.setTop (entryFrame m #[.ref b, .int (Int32.ofNat o), .ref d, .int (Int32.ofNat q), .int (Int32.ofNat len)] 7)) (T7.setTop (mkF m 3 #[.val (.ref b), .val (.int (Int32.ofNat (o + (i + 1)))), .val (.ref d), .val (.int (Int32.ofNat (q + (i + 1)))), .val (.int (Int32.ofNat len)), .val (.int (Int32.ofNat (i + 1))), .val (.int (cv A (o + i)))] [])) := by
        have := c9
        rw [succ32, succ32, succ32] at this
        exact this
      exact ih (i + 1) (by omega) _ (Or.inr ⟨_, rfl, rfl⟩) T7 _ (by rw [copyLocs_step, ← List.append_assoc]; exact X7) (pl.trans p7) (fl.step (by omega) hlt (by simp)) c10
  obtain ⟨T9, B9, z9, X9, p9, f9, g9⟩ := loop len 0 (by omega) .unset (Or.inl rfl) s₁ B (by simpa [copyLocs] using X0) ⟨hB0.1, fun _ _ => rfl, rfl⟩ (Laid.zero _ _ _) c2
  have c11 : Steps p.tables e below (s₁.setTop (entryFrame m #[.ref b, .int (Int32.ofNat o), .ref d, .int (Int32.ofNat q), .int (Int32.ofNat len)] 7)) (T9.setTop (mkF m 46 #[.val (.ref b), .val (.int (Int32.ofNat (o + len))), .val (.ref d), .val (.int (Int32.ofNat (q + len))), .val (.int (Int32.ofNat len)), .val (.int (Int32.ofNat len)), z9] [.int (Int32.ofNat len)])) := g9.trans (by
    refine XS.iload X9.here hexec rfl (hb hbytes d3) rfl ?_
    refine XS.iload X9.here hexec rfl (hb hbytes d5) rfl ?_
    refine XS.icmpYes X9.here hexec rfl (pc0 := 7) rfl (hb hbytes d7) rfl (ii_ge_t (nlt32 (by omega) (Nat.le_refl _))) (by decide) rfl ?_
    refine XS.iload X9.here hexec rfl (hb hbytes d44) rfl ?_
    exact Steps.refl _)
  exact ⟨T9, some (.int (Int32.ofNat len)), _, _, _, X9, by simp, rfl, rfl, (fun h => by cases h), ⟨rfl, B9, p9.from hh0, f9⟩, fun fs hl => c11.trans (X9.ireturnOut hexec hret rfl (Or.inl rfl) (hb hbytes d46) hl)⟩
end Cmp5
namespace Cmp3
def yN : MethodName := ⟨"java/lang/StringUTF16", "compress", "([CII)[B"⟩
abbrev yB : ByteArray := jdk_52_method_16_code
theorem d0 : decode yB 0 = .ok (.iload_n 2, 1) := by decide +kernel
theorem d1 : decode yB 1 = .ok (.newarray .byte, 2) := by decide +kernel
theorem d3 : decode yB 3 = .ok (.astore_n 3, 1) := by decide +kernel
theorem d4 : decode yB 4 = .ok (.aload_n 0, 1) := by decide +kernel
theorem d5 : decode yB 5 = .ok (.iload_n 1, 1) := by decide +kernel
theorem d6 : decode yB 6 = .ok (.aload_n 3, 1) := by decide +kernel
theorem d7 : decode yB 7 = .ok (.iconst 0, 1) := by decide +kernel
theorem d8 : decode yB 8 = .ok (.iload_n 2, 1) := by decide +kernel
theorem d9 : decode yB 9 = .ok (.invokestatic 115, 3) := by decide +kernel
theorem d12 : decode yB 12 = .ok (.istore 4, 2) := by decide +kernel
theorem d14 : decode yB 14 = .ok (.iload 4, 2) := by decide +kernel
theorem d16 : decode yB 16 = .ok (.iload_n 2, 1) := by decide +kernel
theorem d17 : decode yB 17 = .ok (.if_icmp (.eq) 40, 3) := by decide +kernel
theorem d57 : decode yB 57 = .ok (.aload_n 3, 1) := by decide +kernel
theorem d58 : decode yB 58 = .ok (.areturn, 1) := by decide +kernel
def site : List Cond := [.arrayClass .byte, Cmp5.tab] ++ staticW U16 115 Cmp5.yN
def tab : Cond := tabOf yN yB 6 (some (.array .byte)) site
def P (b : Addr) (A : Cell) (o len : Nat) (args : Array Value) (s : State) : Prop := args = #[.ref b, .int (Int32.ofNat o), .int (Int32.ofNat len)] ∧ Ch b A s ∧ o + len ≤ A.slots.size ∧ len ≤ 536870912 ∧ ∀ i, i < len → ¬ 255 < cv A (o + i)
def E (b : Addr) (A : Cell) (o len : Nat) (r : Option Value) (s u : State) : Prop := NewArr .byte "[B" len (fun j => .int (lo8 (cv A (o + j)))) r s u ∧ u.heap.size = s.heap.size + 1
/-- no char of the range above 255: a new byte[] of their low bytes -/
theorem law (l : Launch) (b : Addr) (A : Cell) (o len : Nat) : Law l yN 3 3 1 18 yB 6 (some (.array .byte)) site (P b A o len) (E b A o len) [] 1 len := by
  refine Law.of_walk (plainFor_of_name (by decide +kernel)) (by decide +kernel) (by decide +kernel) (by decide) (fun _ _ h => by rw [h.1]; rfl) (fun _ U U' hal hh h => ⟨h.1, h.2.1.mv hal hh, h.2.2⟩) (fun r U U' V V' h1 hal h2 h => ⟨NewArr.mv r U U' V V' h1 hal h2 h.1, by rw [h1, h2]; exact h.2⟩) ?_
  intro p e s m args below meth c s₁ X0 hexec hbytes hml hret hlk hnm hown hh0 W hP
  obtain ⟨rfl, hA, l1, l2, hp⟩ := hP
  have a31 := hA.1.2.2.2
  have c1 : Steps p.tables e below (s₁.setTop (entryFrame m #[.ref b, .int (Int32.ofNat o), .int (Int32.ofNat len)] 6)) (s₁.setTop (mkF m 0 #[.val (.ref b), .val (.int (Int32.ofNat o)), .val (.int (Int32.ofNat len)), .unset, .unset, .unset] [])) := entry rfl
  have c2 : Steps p.tables e below (s₁.setTop (entryFrame m #[.ref b, .int (Int32.ofNat o), .int (Int32.ofNat len)] 6)) (s₁.setTop (mkF m 1 #[.val (.ref b), .val (.int (Int32.ofNat o)), .val (.int (Int32.ofNat len)), .unset, .unset, .unset] [.int (Int32.ofNat len)])) := c1.trans (by
    refine XS.iloadN X0.here hexec rfl (hb hbytes d0) rfl ?_
    exact Steps.refl _)
  obtain ⟨T3, B3, X3, ba3, bs3, bv3, bh3, bf3, st3⟩ := X0.anew hexec (atype := .byte) (wk W (.arrayClass .byte)) rfl (by show len * 1 ≤ _; omega) (by omega) (g := (mkF m 1 #[.val (.ref b), .val (.int (Int32.ofNat o)), .val (.int (Int32.ofNat len)), .unset, .unset, .unset] [.int (Int32.ofNat len)])) rfl (hb hbytes d1) (rest := []) rfl (Nat.le_refl _) (by show 0 + len ≤ len; omega)
  rw [hh0] at ba3 st3
  have kp3 : XT.Kept s T3 := (XT.Kept.of_eq hh0).push bh3
  have hA3 := hA.keep X3.warmed.alike (kp3 _ _ hA.1.1)
  have hne : b ≠ s.heap.size := hA.1.ne
  have c4 : Steps p.tables e below (s₁.setTop (entryFrame m #[.ref b, .int (Int32.ofNat o), .int (Int32.ofNat len)] 6)) (T3.setTop (mkF m 3 #[.val (.ref b), .val (.int (Int32.ofNat o)), .val (.int (Int32.ofNat len)), .unset, .unset, .unset] [.ref s.heap.size])) := c2.trans (st3 _ (Steps.refl _))
  have c5 : Steps p.tables e below (s₁.setTop (entryFrame m #[.ref b, .int (Int32.ofNat o), .int (Int32.ofNat len)] 6)) (T3.setTop (mkF m 9 #[.val (.ref b), .val (.int (Int32.ofNat o)), .val (.int (Int32.ofNat len)), .val (.ref s.heap.size), .unset, .unset] [.int (Int32.ofNat len), .int 0, .ref s.heap.size, .int (Int32.ofNat o), .ref b])) := c4.trans (by
    refine XS.astoreN X3.here hexec rfl (hb hbytes d3) rfl rfl rfl ?_
    refine XS.aloadN X3.here hexec rfl (hb hbytes d4) rfl rfl ?_
    refine XS.iloadN X3.here hexec rfl (hb hbytes d5) rfl ?_
    refine XS.aloadN X3.here hexec rfl (hb hbytes d6) rfl rfl ?_
    refine iconstV X3.here hexec rfl 0 (hb hbytes d7) (by decide) ?_
    refine XS.iloadN X3.here hexec rfl (hb hbytes d8) rfl ?_
    exact Steps.refl _)
  obtain ⟨v6, T6, X6, E6, g6⟩ := X3.callS hexec (Cmp5.law l b A s.heap.size B3 o 0 len) hown (wks W (staticW U16 115 Cmp5.yN)) (wk W Cmp5.tab) (W := 0) (Nat.le_of_ble_eq_true rfl) (Nat.le_of_ble_eq_true rfl) (Nat.le_refl _) (by show 0 + len + 0 ≤ len; omega) (g := (mkF m 9 #[.val (.ref b), .val (.int (Int32.ofNat o)), .val (.int (Int32.ofNat len)), .val (.ref s.heap.size), .unset, .unset] [.int (Int32.ofNat len), .int (Int32.ofNat 0), .ref s.heap.size, .int (Int32.ofNat o), .ref b])) rfl (by rw [hml]; rfl) c5 (argsL := [.ref b, .int (Int32.ofNat o), .ref s.heap.size, .int (Int32.ofNat 0), .int (Int32.ofNat len)]) (rest := []) rfl rfl (by show 2 * 0 + 0 ≤ _; decide) (hb hbytes d9) (⟨rfl, hA3, ba3, hne, l1, by rw [bs3]; simp, hp⟩)
  obtain ⟨rfl, B6, p6, f6⟩ := E6
  have c7 : Steps p.tables e below (s₁.setTop (entryFrame m #[.ref b, .int (Int32.ofNat o), .int (Int32.ofNat len)] 6)) (T6.setTop (mkF m 12 #[.val (.ref b), .val (.int (Int32.ofNat o)), .val (.int (Int32.ofNat len)), .val (.ref s.heap.size), .unset, .unset] [.int (Int32.ofNat len)])) := g6
  have c8 : Steps p.tables e below (s₁.setTop (entryFrame m #[.ref b, .int (Int32.ofNat o), .int (Int32.ofNat len)] 6)) (T6.setTop (mkF m 58 #[.val (.ref b), .val (.int (Int32.ofNat o)), .val (.int (Int32.ofNat len)), .val (.ref s.heap.size), .val (.int (Int32.ofNat len)), .unset] [.ref s.heap.size])) := c7.trans (by
    refine XS.istore X6.here hexec rfl (hb hbytes d12) rfl rfl ?_
    refine XS.iload X6.here hexec rfl (hb hbytes d14) rfl ?_
    refine XS.iloadN X6.here hexec rfl (hb hbytes d16) rfl ?_
    refine XS.icmpYes X6.here hexec rfl (pc0 := 17) rfl (hb hbytes d17) rfl (ii_eq_t rfl) (by decide) rfl ?_
    refine XS.aloadN X6.here hexec rfl (hb hbytes d57) rfl rfl ?_
    exact Steps.refl _)
  have X8 := X6.wide (L' := []) (cells' := 1) (slots' := len) (fun x hx hlt => by
    simp only [List.nil_append, copyLocs, List.mem_map, List.mem_range] at hx
    obtain ⟨i, -, rfl⟩ := hx
    exact absurd hlt (Nat.lt_irrefl _)) (Nat.le_refl _) (by omega)
  exact ⟨T6, some (.ref s.heap.size), _, _, _, X8, rfl, rfl, rfl, (fun h => by cases h), ⟨⟨rfl, B6, ba3.like (X3.warmed.alike.symm.trans X6.warmed.alike) p6.1 f6.1 f6.2.1 f6.2.2.1, f6.2.1.trans bv3, by rw [X6.warmed.alike.findClass, f6.1]; exact bf3, by rw [f6.2.2.1, bs3]; simp, fun j hj => by rw [f6.2.2.2 j, if_pos (by omega)]; rfl, kp3.put p6 (Nat.le_refl _)⟩, by rw [p6.2.2, bh3, hh0]; simp⟩, fun fs hl => c8.trans (X8.areturnOut hexec rfl hret rfl (hb hbytes d58) hl)⟩
end Cmp3
namespace CodL
def yN : MethodName := ⟨"java/lang/StringUTF16", "coderFromArrayLen", "([BI)B"⟩
abbrev yB : ByteArray := jdk_52_method_15_code
theorem d0 : decode yB 0 = .ok (.iload_n 1, 1) := by decide +kernel
theorem d1 : decode yB 1 = .ok (.aload_n 0, 1) := by decide +kernel
theorem d2 : decode yB 2 = .ok (.arraylength, 1) := by decide +kernel
theorem d3 : decode yB 3 = .ok (.isub, 1) := by decide +kernel
theorem d4 : decode yB 4 = .ok (.bipush 31, 2) := by decide +kernel
theorem d6 : decode yB 6 = .ok (.iushr, 1) := by decide +kernel
theorem d7 : decode yB 7 = .ok (.i2b, 1) := by decide +kernel
theorem d8 : decode yB 8 = .ok (.ireturn, 1) := by decide +kernel
def site : List Cond := []
def tab : Cond := tabOf yN yB 2 (some .byte) site
def P (d : Addr) (B : Cell) (args : Array Value) (s : State) : Prop := args = #[.ref d, .int (Int32.ofNat B.slots.size)] ∧ Arr .byte d B s
def E (r : Option Value) (s u : State) : Prop := XT.PureE (some (.int 0)) r s u
/-- an array as long as the number of chars: LATIN1 -/
theorem law (l : Launch) (d : Addr) (B : Cell) : Law l yN 2 2 0 0 yB 2 (some .byte) site (P d B) E [] 0 0 := by
  refine Law.of_walk (plainFor_of_name (by decide +kernel)) (by decide +kernel) (by decide +kernel) (by decide) (fun _ _ h => by rw [h.1]; rfl) (fun _ U U' hal hh h => ⟨h.1, h.2.mv hal hh⟩) (fun r U U' V V' h1 hal h2 h => XT.PureE.mv r U U' V V' h1 hal h2 h) ?_
  intro p e s m args below meth c s₁ X0 hexec hbytes hml hret hlk hnm hown hh0 W hP
  obtain ⟨rfl, hB⟩ := hP
  have hB0 := hB.mv X0.warmed.alike hh0
  have c1 : Steps p.tables e below (s₁.setTop (entryFrame m #[.ref d, .int (Int32.ofNat B.slots.size)] 2)) (s₁.setTop (mkF m 0 #[.val (.ref d), .val (.int (Int32.ofNat B.slots.size))] [])) := entry rfl
  have c2 : Steps p.tables e below (s₁.setTop (entryFrame m #[.ref d, .int (Int32.ofNat B.slots.size)] 2)) (s₁.setTop (mkF m 2 #[.val (.ref d), .val (.int (Int32.ofNat B.slots.size))] [.ref d, .int (Int32.ofNat B.slots.size)])) := c1.trans (by
    refine XS.iloadN X0.here hexec rfl (hb hbytes d0) rfl ?_
    refine XS.aloadN X0.here hexec rfl (hb hbytes d1) rfl rfl ?_
    exact Steps.refl _)
  have c3 : Steps p.tables e below (s₁.setTop (entryFrame m #[.ref d, .int (Int32.ofNat B.slots.size)] 2)) (s₁.setTop (mkF m 8 #[.val (.ref d), .val (.int (Int32.ofNat B.slots.size))] [.int (lo8 (ushr (Int32.ofNat B.slots.size - Int32.ofNat B.slots.size) 31))])) := c2.trans (by
    refine X0.alen hexec hB0 rfl rfl (hb hbytes d2) ?_
    refine XS.isub X0.here hexec rfl (hb hbytes d3) rfl ?_
    refine bipushV X0.here hexec rfl 31 (hb hbytes d4) (by decide) ?_
    refine iushr X0.here hexec rfl (hb hbytes d6) rfl ?_
    refine i2b X0.here hexec rfl (hb hbytes d7) rfl ?_
    exact Steps.refl _)
  have e0 : lo8 (ushr (Int32.ofNat B.slots.size - Int32.ofNat B.slots.size) 31) = 0 := by rw [Int32.sub_self]; decide
  rw [e0] at c3
  exact ⟨s₁, some (.int 0), _, _, _, X0, rfl, rfl, rfl, (fun h => by cases h), ⟨rfl, hh0⟩, fun fs hl => c3.trans (X0.ireturnOut hexec hret rfl (Or.inr (Or.inr (Or.inl rfl))) (hb hbytes d8) hl)⟩
end CodL
/-- the String at a is Latin-1 over a new byte[] (the heap's one new cell): the low bytes of the len chars of A from o on; every cell but a is kept -/
def Got (a : Addr) (D : Cell) (fV fC : Field) (A : Cell) (o len : Nat) (r : Option Value) (s u : State) : Prop := r = none ∧ ∃ D' V : Cell, Blank "java/lang/String" a D' u ∧ Same D D' [fV.slot, fC.slot] ∧ D'.slots[fV.slot]? = some (.ref s.heap.size) ∧ D'.slots[fC.slot]? = some (.int 0) ∧ Arr .byte s.heap.size V u ∧ V.vm = .none ∧ u.vm.findClass "[B" = some V.cls ∧ V.slots.size = len ∧ (∀ j, j < len → V.slots[j]? = some (.int (lo8 (cv A (o + j))))) ∧ (∀ (y : Addr) (c : Cell), y ≠ a → s.heap[y]? = some c → u.heap[y]? = some c) ∧ u.heap.size = s.heap.size + 1
theorem Got.mv {a : Addr} {D A : Cell} {fV fC : Field} {o len : Nat} : ∀ r (U U' V V' : State), U'.heap = U.heap → V.vm.Alike V'.vm → V'.heap = V.heap → Got a D fV fC A o len r U V → Got a D fV fC A o len r U' V' :=
  fun r U U' V V' h1 hal h2 ⟨e0, D', X, a1, a2, a3, a4, a5, a6, a7, a8, a9, a10, a11⟩ => ⟨e0, D', X, a1.mv hal h2, a2, by rw [h1]; exact a3, a4, by rw [h1]; exact a5.mv hal h2, a6, by rw [hal.findClass]; exact a7, a8, a9, by rw [h1, h2]; exact a10, by rw [h1, h2]; exact a11⟩
namespace New4
def yN : MethodName := ⟨"java/lang/String", "<init>", "([CIILjava/lang/Void;)V"⟩
abbrev yB : ByteArray := jdk_42_method_149_code
theorem d0 : decode yB 0 = .ok (.aload_n 0, 1) := by decide +kernel
theorem d1 : decode yB 1 = .ok (.invokespecial 1, 3) := by decide +kernel
theorem d4 : decode yB 4 = .ok (.iload_n 3, 1) := by decide +kernel
theorem d5 : decode yB 5 = .ok (.ifCond (.ne) 22, 3) := by decide +kernel
theorem d27 : decode yB 27 = .ok (.getstatic 38, 3) := by decide +kernel
theorem d30 : decode yB 30 = .ok (.ifCond (.eq) 28, 3) := by decide +kernel
theorem d33 : decode yB 33 = .ok (.aload_n 1, 1) := by decide +kernel
theorem d34 : decode yB 34 = .ok (.iload_n 2, 1) := by decide +kernel
theorem d35 : decode yB 35 = .ok (.iload_n 3, 1) := by decide +kernel
theorem d36 : decode yB 36 = .ok (.invokestatic 177, 3) := by decide +kernel
theorem d39 : decode yB 39 = .ok (.astore 5, 2) := by decide +kernel
theorem d41 : decode yB 41 = .ok (.aload_n 0, 1) := by decide +kernel
theorem d42 : decode yB 42 = .ok (.aload 5, 2) := by decide +kernel
theorem d44 : decode yB 44 = .ok (.iload_n 3, 1) := by decide +kernel
theorem d45 : decode yB 45 = .ok (.invokestatic 47, 3) := by decide +kernel
theorem d48 : decode yB 48 = .ok (.putfield 15, 3) := by decide +kernel
theorem d51 : decode yB 51 = .ok (.aload_n 0, 1) := by decide +kernel
theorem d52 : decode yB 52 = .ok (.aload 5, 2) := by decide +kernel
theorem d54 : decode yB 54 = .ok (.putfield 9, 3) := by decide +kernel
theorem d57 : decode yB 57 = .ok (.return_, 1) := by decide +kernel
def site : List Cond := [.fieldLink "java/lang/String" 38 "java/lang/String" "COMPACT_STRINGS" "Z", Cmp3.tab, CodL.tab, .laysFinal "java/lang/String" "java/lang/String" "value" "[B", .fieldLink "java/lang/String" 9 "java/lang/String" "value" "[B", .laysFinal "java/lang/String" "java/lang/String" "coder" "B", .fieldLink "java/lang/String" 15 "java/lang/String" "coder" "B"] ++ objW "java/lang/String" 1 ++ staticW "java/lang/String" 177 Cmp3.yN ++ staticW "java/lang/String" 47 CodL.yN
def tab : Cond := tabOf yN yB 6 none site
def P (a : Addr) (D : Cell) (fV fC : Field) (b : Addr) (A : Cell) (z : Int32) (o len : Nat) (args : Array Value) (s : State) : Prop := args = #[.ref a, .ref b, .int (Int32.ofNat o), .int (Int32.ofNat len), .null] ∧ Blank "java/lang/String" a D s ∧ Found "java/lang/String" "value" "[B" fV s ∧ Found "java/lang/String" "coder" "B" fC s ∧ Ch b A s ∧ StaticIs s "java/lang/String" "COMPACT_STRINGS" "Z" (.int z) ∧ ¬ z = 0 ∧ 0 < len ∧ o + len ≤ A.slots.size ∧ len ≤ 536870912 ∧ ∀ i, i < len → ¬ 255 < cv A (o + i)
def E (a : Addr) (D : Cell) (fV fC : Field) (A : Cell) (o len : Nat) (r : Option Value) (s u : State) : Prop := Got a D fV fC A o len r s u
/-- len > 0, no char of the range above 255: a Latin-1 String of their low bytes -/
theorem law (l : Launch) (a : Addr) (D : Cell) (fV fC : Field) (b : Addr) (A : Cell) (z : Int32) (o len : Nat) : Law l yN 5 4 2 35 yB 6 none site (P a D fV fC b A z o len) (E a D fV fC A o len) [⟨a, fC.slot⟩, ⟨a, fV.slot⟩] 1 len := by
  refine Law.of_walk (plainFor_of_name (by decide +kernel)) (by decide +kernel) (by decide +kernel) (by decide) (fun _ _ h => by rw [h.1]; rfl) (fun _ U U' hal hh h => ⟨h.1, h.2.1.mv hal hh, h.2.2.1.al hal, h.2.2.2.1.al hal, h.2.2.2.2.1.mv hal hh, h.2.2.2.2.2.1.there hal hh, h.2.2.2.2.2.2⟩) (fun r U U' V V' h1 hal h2 h => Got.mv r U U' V V' h1 hal h2 h) ?_
  intro p e s m args below meth c s₁ X0 hexec hbytes hml hret hlk hnm hown hh0 W hP
  obtain ⟨rfl, hB, f1, f2, hA, s1, hz, l0, l1, l2, hp⟩ := hP
  have a31 := hA.1.2.2.2
  have c1 : Steps p.tables e below (s₁.setTop (entryFrame m #[.ref a, .ref b, .int (Int32.ofNat o), .int (Int32.ofNat len), .null] 6)) (s₁.setTop (mkF m 0 #[.val (.ref a), .val (.ref b), .val (.int (Int32.ofNat o)), .val (.int (Int32.ofNat len)), .val .null, .unset] [])) := entry rfl
  have c2 : Steps p.tables e below (s₁.setTop (entryFrame m #[.ref a, .ref b, .int (Int32.ofNat o), .int (Int32.ofNat len), .null] 6)) (s₁.setTop (mkF m 1 #[.val (.ref a), .val (.ref b), .val (.int (Int32.ofNat o)), .val (.int (Int32.ofNat len)), .val .null, .unset] [.ref a])) := c1.trans (by
    refine XS.aloadN X0.here hexec rfl (hb hbytes d0) rfl rfl ?_
    exact Steps.refl _)
  obtain ⟨T3, X3, q3, st3⟩ := X0.oinit hexec hown (wks W (objW "java/lang/String" 1)) (g := (mkF m 1 #[.val (.ref a), .val (.ref b), .val (.int (Int32.ofNat o)), .val (.int (Int32.ofNat len)), .val .null, .unset] [.ref a])) rfl (by rw [hml]; rfl) (rest := []) rfl (hb hbytes d1) (W := 0) (by show 2 * 0 + 0 ≤ _; decide) (Nat.le_of_ble_eq_true rfl) (Nat.le_of_ble_eq_true rfl)
  have hh3 := q3.trans hh0
  have c4 : Steps p.tables e below (s₁.setTop (entryFrame m #[.ref a, .ref b, .int (Int32.ofNat o), .int (Int32.ofNat len), .null] 6)) (T3.setTop (mkF m 27 #[.val (.ref a), .val (.ref b), .val (.int (Int32.ofNat o)), .val (.int (Int32.ofNat len)), .val .null, .unset] [])) := (c2.trans (st3 _ (Steps.refl _))).trans (by
    refine XS.iloadN X3.here hexec rfl (hb hbytes d4) rfl ?_
    refine XS.ifYes X3.here hexec rfl (pc0 := 5) rfl (hb hbytes d5) rfl (i0_ne_t (nz32 (by omega) l0)) (by decide) rfl ?_
    exact Steps.refl _)
  obtain ⟨T5, X5, q5, st5⟩ := X3.sget hexec hown (wk W (.fieldLink "java/lang/String" 38 "java/lang/String" "COMPACT_STRINGS" "Z")) s1 (fun _ _ h => by rw [hh3]; exact h) (g := (mkF m 27 #[.val (.ref a), .val (.ref b), .val (.int (Int32.ofNat o)), .val (.int (Int32.ofNat len)), .val .null, .unset] [])) rfl (hb hbytes d27)
  have hh5 := q5.trans hh3
  have c6 : Steps p.tables e below (s₁.setTop (entryFrame m #[.ref a, .ref b, .int (Int32.ofNat o), .int (Int32.ofNat len), .null] 6)) (T5.setTop (mkF m 30 #[.val (.ref a), .val (.ref b), .val (.int (Int32.ofNat o)), .val (.int (Int32.ofNat len)), .val .null, .unset] [.int z])) := c4.trans (st5 _ (Steps.refl _))
  have c7 : Steps p.tables e below (s₁.setTop (entryFrame m #[.ref a, .ref b, .int (Int32.ofNat o), .int (Int32.ofNat len), .null] 6)) (T5.setTop (mkF m 36 #[.val (.ref a), .val (.ref b), .val (.int (Int32.ofNat o)), .val (.int (Int32.ofNat len)), .val .null, .unset] [.int (Int32.ofNat len), .int (Int32.ofNat o), .ref b])) := c6.trans (by
    refine XS.ifNo X5.here hexec rfl (hb hbytes d30) rfl (i0_eq_f hz) ?_
    refine XS.aloadN X5.here hexec rfl (hb hbytes d33) rfl rfl ?_
    refine XS.iloadN X5.here hexec rfl (hb hbytes d34) rfl ?_
    refine XS.iloadN X5.here hexec rfl (hb hbytes d35) rfl ?_
    exact Steps.refl _)
  obtain ⟨v8, T8, X8, E8, g8⟩ := X5.callS hexec (Cmp3.law l b A o len) hown (wks W (staticW "java/lang/String" 177 Cmp3.yN)) (wk W Cmp3.tab) (W := 0) (Nat.le_of_ble_eq_true rfl) (Nat.le_of_ble_eq_true rfl) (Nat.le_refl _) (by show 0 + len ≤ len; omega) (g := (mkF m 36 #[.val (.ref a), .val (.ref b), .val (.int (Int32.ofNat o)), .val (.int (Int32.ofNat len)), .val .null, .unset] [.int (Int32.ofNat len), .int (Int32.ofNat o), .ref b])) rfl (by rw [hml]; rfl) c7 (argsL := [.ref b, .int (Int32.ofNat o), .int (Int32.ofNat len)]) (rest := []) rfl rfl (by show 2 * 0 + 0 ≤ _; decide) (hb hbytes d36) (⟨rfl, hA.mv X5.warmed.alike hh5, l1, l2, hp⟩)
  obtain ⟨e8, z8⟩ := E8
  obtain ⟨rfl, N, n1, n2, n3, n4, n5, n6⟩ := NewArr.mv _ T5 s _ _ hh5.symm (Vm.Alike.refl _) rfl e8
  rw [hh5] at z8
  have hB1 := hB.keep X8.warmed.alike (n6 _ _ hB.1)
  have hne : s.heap.size ≠ a := (Nat.ne_of_lt (Array.getElem?_eq_some_iff.mp hB.1).1).symm
  have c9 : Steps p.tables e below (s₁.setTop (entryFrame m #[.ref a, .ref b, .int (Int32.ofNat o), .int (Int32.ofNat len), .null] 6)) (T8.setTop (mkF m 39 #[.val (.ref a), .val (.ref b), .val (.int (Int32.ofNat o)), .val (.int (Int32.ofNat len)), .val .null, .unset] [.ref s.heap.size])) := g8
  have c10 : Steps p.tables e below (s₁.setTop (entryFrame m #[.ref a, .ref b, .int (Int32.ofNat o), .int (Int32.ofNat len), .null] 6)) (T8.setTop (mkF m 45 #[.val (.ref a), .val (.ref b), .val (.int (Int32.ofNat o)), .val (.int (Int32.ofNat len)), .val .null, .val (.ref s.heap.size)] [.int (Int32.ofNat N.slots.size), .ref s.heap.size, .ref a])) := by
    have hc : Steps p.tables e below (s₁.setTop (entryFrame m #[.ref a, .ref b, .int (Int32.ofNat o), .int (Int32.ofNat len), .null] 6)) (T8.setTop (mkF m 45 #[.val (.ref a), .val (.ref b), .val (.int (Int32.ofNat o)), .val (.int (Int32.ofNat len)), .val .null, .val (.ref s.heap.size)] [.int (Int32.ofNat len), .ref s.heap.size, .ref a])) := c9.trans (by
      refine XS.astore X8.here hexec rfl (hb hbytes d39) rfl rfl rfl ?_
      refine XS.aloadN X8.here hexec rfl (hb hbytes d41) rfl rfl ?_
      refine XS.aload X8.here hexec rfl (hb hbytes d42) rfl rfl ?_
      refine XS.iloadN X8.here hexec rfl (hb hbytes d44) rfl ?_
      exact Steps.refl _)
    rw [n4]; exact hc
  obtain ⟨v11, T11, X11, E11, g11⟩ := X8.callS hexec (CodL.law l s.heap.size N) hown (wks W (staticW "java/lang/String" 47 CodL.yN)) (wk W CodL.tab) (W := 1) (Nat.le_of_ble_eq_true rfl) (Nat.le_of_ble_eq_true rfl) (Nat.le_refl _) (by show 0 + len + 0 ≤ len; omega) (g := (mkF m 45 #[.val (.ref a), .val (.ref b), .val (.int (Int32.ofNat o)), .val (.int (Int32.ofNat len)), .val .null, .val (.ref s.heap.size)] [.int (Int32.ofNat N.slots.size), .ref s.heap.size, .ref a])) rfl (by rw [hml]; rfl) c10 (argsL := [.ref s.heap.size, .int (Int32.ofNat N.slots.size)]) (rest := [.ref a]) rfl rfl (by show 2 * 0 + (1 + 0) ≤ _; decide) (hb hbytes d45) (⟨rfl, n1⟩)
  obtain ⟨rfl, q11⟩ := E11
  have hB11 := hB1.mv (X8.warmed.alike.symm.trans X11.warmed.alike) q11
  have c12 : Steps p.tables e below (s₁.setTop (entryFrame m #[.ref a, .ref b, .int (Int32.ofNat o), .int (Int32.ofNat len), .null] 6)) (T11.setTop (mkF m 48 #[.val (.ref a), .val (.ref b), .val (.int (Int32.ofNat o)), .val (.int (Int32.ofNat len)), .val .null, .val (.ref s.heap.size)] [.int 0, .ref a])) := g11
  obtain ⟨T13, X13, p13, bl13, sl13, st13⟩ := X11.finit hexec hown (wk W (.fieldLink "java/lang/String" 15 "java/lang/String" "coder" "B")) (Or.inr ⟨_, (wk W (.laysFinal "java/lang/String" "java/lang/String" "coder" "B"))⟩) (Or.inl ⟨rfl, hnm⟩) f2 (Or.inl rfl) hB11 (t := .byte) (by decide +kernel) rfl (g := (mkF m 48 #[.val (.ref a), .val (.ref b), .val (.int (Int32.ofNat o)), .val (.int (Int32.ofNat len)), .val .null, .val (.ref s.heap.size)] [.int 0, .ref a])) rfl (rest := []) rfl (hb hbytes d48)
  have c14 : Steps p.tables e below (s₁.setTop (entryFrame m #[.ref a, .ref b, .int (Int32.ofNat o), .int (Int32.ofNat len), .null] 6)) (T13.setTop (mkF m 54 #[.val (.ref a), .val (.ref b), .val (.int (Int32.ofNat o)), .val (.int (Int32.ofNat len)), .val .null, .val (.ref s.heap.size)] [.ref s.heap.size, .ref a])) := (c12.trans (st13 _ (Steps.refl _))).trans (by
    refine XS.aloadN X13.here hexec rfl (hb hbytes d51) rfl rfl ?_
    refine XS.aload X13.here hexec rfl (hb hbytes d52) rfl rfl ?_
    exact Steps.refl _)
  obtain ⟨T15, X15, p15, bl15, sl15, st15⟩ := X13.finit hexec hown (wk W (.fieldLink "java/lang/String" 9 "java/lang/String" "value" "[B")) (Or.inr ⟨_, (wk W (.laysFinal "java/lang/String" "java/lang/String" "value" "[B"))⟩) (Or.inl ⟨rfl, hnm⟩) f1 (Or.inl rfl) bl13 (t := (.array .byte)) (by decide +kernel) rfl (g := (mkF m 54 #[.val (.ref a), .val (.ref b), .val (.int (Int32.ofNat o)), .val (.int (Int32.ofNat len)), .val .null, .val (.ref s.heap.size)] [.ref s.heap.size, .ref a])) rfl (rest := []) rfl (hb hbytes d54)
  have c16 : Steps p.tables e below (s₁.setTop (entryFrame m #[.ref a, .ref b, .int (Int32.ofNat o), .int (Int32.ofNat len), .null] 6)) (T15.setTop (mkF m 57 #[.val (.ref a), .val (.ref b), .val (.int (Int32.ofNat o)), .val (.int (Int32.ofNat len)), .val .null, .val (.ref s.heap.size)] [])) := c14.trans (st15 _ (Steps.refl _))
  have ap := apart (Or.inr ⟨_, (wk W (.laysFinal "java/lang/String" "java/lang/String" "value" "[B"))⟩) (Or.inr ⟨_, (wk W (.laysFinal "java/lang/String" "java/lang/String" "coder" "B"))⟩) f1 f2 (t₁ := .array .byte) (t₂ := .byte) (by decide +kernel) (by decide +kernel) (by decide)
  have al := X8.warmed.alike.symm.trans X15.warmed.alike
  have n7 : T11.heap[s.heap.size]? = some N := by rw [q11]; exact n1.1
  exact ⟨T15, none, _, _, _, X15, by simp, rfl, by omega, (fun _ => rfl), ⟨rfl, _, N, bl15, ((Same.refl D _).set _ (by simp)).set _ (by simp), sl15, (Cell.slots_setSlot_ne _ ap).trans sl13, n1.keep al (p15.other hne (p13.other hne n7)), n2, by rw [al.findClass]; exact n3, n4, n5, fun y c h1 h2 => p15.other h1 (p13.other h1 (by rw [q11]; exact n6 y c h2)), by rw [p15.2.2, p13.2.2, q11]; exact z8⟩, fun fs hl => c16.trans (X15.returnOut hexec hret (hb hbytes d57) hl)⟩
end New4
namespace New1
def yN : MethodName := ⟨"java/lang/String", "<init>", "([C)V"⟩
abbrev yB : ByteArray := jdk_42_method_3_code
theorem d0 : decode yB 0 = .ok (.aload_n 0, 1) := by decide +kernel
theorem d1 : decode yB 1 = .ok (.aload_n 1, 1) := by decide +kernel
theorem d2 : decode yB 2 = .ok (.iconst 0, 1) := by decide +kernel
theorem d3 : decode yB 3 = .ok (.aload_n 1, 1) := by decide +kernel
theorem d4 : decode yB 4 = .ok (.arraylength, 1) := by decide +kernel
theorem d5 : decode yB 5 = .ok (.aconst_null, 1) := by decide +kernel
theorem d6 : decode yB 6 = .ok (.invokespecial 27, 3) := by decide +kernel
theorem d9 : decode yB 9 = .ok (.return_, 1) := by decide +kernel
def site : List Cond := [New4.tab] ++ initW "java/lang/String" 27 New4.yN
def tab : Cond := tabOf yN yB 2 none site
def P (a : Addr) (D : Cell) (fV fC : Field) (b : Addr) (A : Cell) (z : Int32) (args : Array Value) (s : State) : Prop := args = #[.ref a, .ref b] ∧ Blank "java/lang/String" a D s ∧ Found "java/lang/String" "value" "[B" fV s ∧ Found "java/lang/String" "coder" "B" fC s ∧ Ch b A s ∧ StaticIs s "java/lang/String" "COMPACT_STRINGS" "Z" (.int z) ∧ ¬ z = 0 ∧ 0 < A.slots.size ∧ A.slots.size ≤ 536870912 ∧ ∀ i, i < A.slots.size → ¬ 255 < cv A i
def E (a : Addr) (D : Cell) (fV fC : Field) (A : Cell) (r : Option Value) (s u : State) : Prop := Got a D fV fC A 0 A.slots.size r s u
/-- new String(chars), not empty, no char above 255: a Latin-1 String of their low bytes -/
theorem law (l : Launch) (a : Addr) (D : Cell) (fV fC : Field) (b : Addr) (A : Cell) (z : Int32) : Law l yN 2 1 3 52 yB 2 none site (P a D fV fC b A z) (E a D fV fC A) [⟨a, fC.slot⟩, ⟨a, fV.slot⟩] 1 A.slots.size := by
  refine Law.of_walk (plainFor_of_name (by decide +kernel)) (by decide +kernel) (by decide +kernel) (by decide) (fun _ _ h => by rw [h.1]; rfl) (fun _ U U' hal hh h => ⟨h.1, h.2.1.mv hal hh, h.2.2.1.al hal, h.2.2.2.1.al hal, h.2.2.2.2.1.mv hal hh, h.2.2.2.2.2.1.there hal hh, h.2.2.2.2.2.2⟩) (fun r U U' V V' h1 hal h2 h => Got.mv r U U' V V' h1 hal h2 h) ?_
  intro p e s m args below meth c s₁ X0 hexec hbytes hml hret hlk hnm hown hh0 W hP
  obtain ⟨rfl, hB, f1, f2, hA, s1, hz, l0, l2, hp⟩ := hP
  have c1 : Steps p.tables e below (s₁.setTop (entryFrame m #[.ref a, .ref b] 2)) (s₁.setTop (mkF m 0 #[.val (.ref a), .val (.ref b)] [])) := entry rfl
  have c2 : Steps p.tables e below (s₁.setTop (entryFrame m #[.ref a, .ref b] 2)) (s₁.setTop (mkF m 6 #[.val (.ref a), .val (.ref b)] [.null, .int (Int32.ofNat A.slots.size), .int 0, .ref b, .ref a])) := c1.trans (by
    refine XS.aloadN X0.here hexec rfl (hb hbytes d0) rfl rfl ?_
    refine XS.aloadN X0.here hexec rfl (hb hbytes d1) rfl rfl ?_
    refine iconstV X0.here hexec rfl 0 (hb hbytes d2) (by decide) ?_
    refine XS.aloadN X0.here hexec rfl (hb hbytes d3) rfl rfl ?_
    refine X0.alen hexec (hA.1.mv X0.warmed.alike hh0) rfl rfl (hb hbytes d4) ?_
    refine XS.aconstNull X0.here hexec rfl (hb hbytes d5) ?_
    exact Steps.refl _)
  obtain ⟨v3, T3, X3, E3, g3⟩ := X0.callN hexec (New4.law l a D fV fC b A z 0 A.slots.size) rfl hown (wks W (initW "java/lang/String" 27 New4.yN)) (W New4.tab (by simp only [site, List.mem_cons, List.mem_append, true_or, or_true])) (W := 0) (Nat.le_of_ble_eq_true rfl) (Nat.le_of_ble_eq_true rfl) (Nat.le_refl _) (by show 0 + A.slots.size ≤ A.slots.size; omega) (g := (mkF m 6 #[.val (.ref a), .val (.ref b)] [.null, .int (Int32.ofNat A.slots.size), .int (Int32.ofNat 0), .ref b, .ref a])) rfl (by rw [hml]; rfl) c2 (argsL := [.ref b, .int (Int32.ofNat 0), .int (Int32.ofNat A.slots.size), .null]) (rest := []) rfl rfl (by show 2 * 0 + 0 ≤ _; decide) (hb hbytes d6) (⟨rfl, hB.mv X0.warmed.alike hh0, f1.al X0.warmed.alike, f2.al X0.warmed.alike, hA.mv X0.warmed.alike hh0, s1.there X0.warmed.alike hh0, hz, l0, by omega, l2, fun i hi => by rw [Nat.zero_add]; exact hp i hi⟩)
  have e0 := Got.mv _ s₁ s _ _ hh0.symm (Vm.Alike.refl _) rfl E3
  obtain rfl := e0.1
  have c4 : Steps p.tables e below (s₁.setTop (entryFrame m #[.ref a, .ref b] 2)) (T3.setTop (mkF m 9 #[.val (.ref a), .val (.ref b)] [])) := g3
  exact ⟨T3, none, _, _, _, X3, by simp, rfl, by omega, (fun _ => rfl), e0, fun fs hl => c4.trans (X3.returnOut hexec hret (hb hbytes d9) hl)⟩
theorem pays {l : Launch} {R : Room} {p : Program} {e : Env} {below : List Frame} {s : State} {sargs : Array Value} {len W : Nat} (a : Addr) (D : Cell) (fV fC : Field) (b : Addr) (A : Cell) (z : Int32) (htab : tab.before sargs s = true) (hfr : 4 ≤ R.frames) (hlo : W + 65 ≤ R.locals) :
    Back l R p e below s sargs yN len W (fun A₁ a₁ => A₁.cells + 1 ≤ R.cells ∧ A₁.slots + A.slots.size ≤ R.slots ∧ P a D fV fC b A z a₁ A₁.U) (fun A₁ _ v₁ B₁ => E a D fV fC A v₁ A₁.U B₁.U ∧ B₁.locs = A₁.locs ++ [⟨a, fC.slot⟩, ⟨a, fV.slot⟩] ∧ B₁.cells = A₁.cells + 1 ∧ B₁.slots = A₁.slots + A.slots.size) :=
  (law l a D fV fC b A z).pays htab hfr (by omega)
end New1
/-- the byte, read back as charAt reads it, is the char -/
theorem lo8_mask {x : Int32} (h0 : ¬ x < 0) (h1 : ¬ 255 < x) : lo8 x &&& 255 = x := by
  have t : ∀ k : Fin 256, lo8 (Int32.ofNat k.val) &&& 255 = Int32.ofNat k.val := by decide +kernel
  rw [Int32.lt_iff_toInt_lt] at h0 h1
  have e0 : (0 : Int32).toInt = 0 := rfl
  have e1 : (255 : Int32).toInt = 255 := rfl
  obtain ⟨k, hk⟩ : ∃ k : Nat, x.toInt = k := ⟨x.toInt.toNat, by omega⟩
  have hx : x = Int32.ofNat k := Int32.toInt_inj.mp (by rw [hk, Int32.toInt_ofNat_small (by omega)])
  rw [hx]
  exact t ⟨k, by omega⟩
end StrChars
namespace StrChars.Road
open Jvm Sem ClassFile Op Lib Jvm.Stand Jvm.Free Jvm.Free.XT
open Jvm.Lib.Cold (StaticIs)
abbrev ST : String := "java/lang/String"
/-- every table word that New1's law asks, flat -/
abbrev words : List Jvm.Cond := [.code New1.yN New1.yB 2 none, .initialized ST, .methodLink ST 27 New4.yN, .instanceMethod New4.yN,
  .code New4.yN New4.yB 6 none, .fieldLink ST 38 ST "COMPACT_STRINGS" "Z", .laysFinal ST ST "value" "[B", .fieldLink ST 9 ST "value" "[B", .laysFinal ST ST "coder" "B", .fieldLink ST 15 ST "coder" "B",
  .methodLink ST 1 Lib.objectInit, .instanceMethod Lib.objectInit, .code Lib.objectInit ⟨#[0xb1]⟩ 1 none, .methodLink ST 177 Cmp3.yN, .static Cmp3.yN, .methodLink ST 47 CodL.yN, .static CodL.yN,
  .code Cmp3.yN Cmp3.yB 6 (some (.array .byte)), .initialized U16, .arrayClass .byte, .methodLink U16 115 Cmp5.yN, .static Cmp5.yN, .code Cmp5.yN Cmp5.yB 7 (some .int), .code CodL.yN CodL.yB 2 (some .byte)]
theorem tab_of {a : Array Value} {s : State} (h : ∀ w ∈ words, w.before a s = true) : New1.tab.before a s = true := by
  have h5 : Cmp5.tab.before a s = true := unparts (wk h (.code Cmp5.yN Cmp5.yB 7 (some .int))) (wks h (.initialized Cmp5.yN.cls :: Cmp5.site))
  have hc : CodL.tab.before a s = true := unparts (wk h (.code CodL.yN CodL.yB 2 (some .byte))) (wks h (.initialized CodL.yN.cls :: CodL.site))
  have q5 : ∀ w ∈ Cmp5.tab :: words, w.before a s = true := fun w hw => (List.mem_cons.mp hw).elim (fun e => e ▸ h5) (h w)
  have h3 : Cmp3.tab.before a s = true := unparts (wk q5 (.code Cmp3.yN Cmp3.yB 6 (some (.array .byte)))) (wks q5 (.initialized Cmp3.yN.cls :: Cmp3.site))
  have q3 : ∀ w ∈ Cmp3.tab :: CodL.tab :: words, w.before a s = true := fun w hw => (List.mem_cons.mp hw).elim (fun e => e ▸ h3) fun hw => (List.mem_cons.mp hw).elim (fun e => e ▸ hc) (h w)
  have h4 : New4.tab.before a s = true := unparts (wk q3 (.code New4.yN New4.yB 6 none)) (wks q3 (.initialized New4.yN.cls :: New4.site))
  have q4 : ∀ w ∈ New4.tab :: words, w.before a s = true := fun w hw => (List.mem_cons.mp hw).elim (fun e => e ▸ h4) (h w)
  exact unparts (wk q4 (.code New1.yN New1.yB 2 none)) (wks q4 (.initialized New1.yN.cls :: New1.site))
/-- the words ride from the start Z to the walk's own state -/
theorem moved {Z s : State} {a0 args : Array Value} (hZ : Z.Warmed39 s.vm) (hw : ∀ d ∈ words, d.before a0 Z = true) : ∀ d ∈ words, d.before args s = true := fun d hd => by
  have q := hw d hd
  have t : ∀ d ∈ words, d = .arrayClass .byte ∨ (d.onTables && d.keepsFace) = true := by decide +kernel
  rcases t d hd with rfl | t
  · exact RoadKit.mvA hZ q
  · exact RoadKit.mv hZ q t
/-- WHAT COMES BACK, over the tables of the start Z: h the heap at the call, h' behind it -/
def Q (Z : State) (x : Addr) (A : Cell) (h : Heap) (v : Option Value) (h' : Heap) (L : List Loc) : Prop := v = none ∧ (∀ y ∈ L, y.base = x) ∧ RoadKit.Keep h h' [x] ∧ h'.size = h.size + 1 ∧ RoadKit.Exa Z h' x ST ∧ RoadKit.Fld Z h' x ST "value" "[B" (.ref h.size) ∧ RoadKit.Fld Z h' x ST "coder" "B" (.int 0) ∧
  (∃ V : Cell, RoadKit.Arr Z h' h.size V .byte ∧ V.vm = .none ∧ Z.vm.findClass "[B" = some V.cls ∧ V.slots.size = A.slots.size ∧ ∀ j, j < A.slots.size → V.slots[j]? = some (.int (lo8 (cv A j)))) ∧
  ∀ (O n d : String) (w : Value), RoadKit.Fld Z h x O n d w → RoadKit.slotOf Z O n d ≠ RoadKit.slotOf Z ST "value" "[B" → RoadKit.slotOf Z O n d ≠ RoadKit.slotOf Z ST "coder" "B" → RoadKit.Fld Z h' x O n d w
/-- **new String(chars) AT A CALL, IN THE ROAD'S FORM**: for specialBack behind newO: x the fresh String, b the char[] with the cell A -/
theorem back {p : Program} {l : Launch} {e : Env} {R : Room} {s : State} {args : Array Value} {below : List Frame} {len W : Nat} {Z : State} {a0 : Array Value} {h : Heap} (hZ : Z.Warmed39 s.vm) (hw : ∀ d ∈ words, d.before a0 Z = true) {kI : Nat} (wi : (Jvm.Cond.instantiable ST kI).before a0 Z = true)
    {x b : Addr} {A : Cell} {z : Int32} {v0 c0 : Value} (E : RoadKit.Exa Z h x ST) (V : RoadKit.Fld Z h x ST "value" "[B" v0) (C : RoadKit.Fld Z h x ST "coder" "B" c0) (K : RoadKit.Arr Z h b A .char) (hty : Typed .char A) (S : RoadKit.Sta Z h ST "COMPACT_STRINGS" "Z" (.int z)) (hz : ¬ z = 0)
    (l0 : 0 < A.slots.size) (l2 : A.slots.size ≤ 536870912) (hp : ∀ i, i < A.slots.size → ¬ 255 < cv A i) (hfr : 4 ≤ R.frames) (hlo : W + 65 ≤ R.locals) :
    Back l R p e below s args New1.yN len W (fun P a => a = #[.ref x, .ref b] ∧ P.U.heap = h ∧ P.cells + 1 ≤ R.cells ∧ P.slots + A.slots.size ≤ R.slots)
      (fun P _ v B => ∃ L, Q Z x A h v B.U.heap L ∧ B.locs = P.locs ++ L ∧ B.cells = P.cells + 1 ∧ B.slots = P.slots + A.slots.size) := by
  intro m meth c P g ig mk a X hg hsize hdg hW hn hp'
  obtain ⟨rfl, rfl, r1, r2⟩ := hp'
  have al : Z.vm.Alike P.U.vm := hZ.alike.trans X.warmed.alike
  obtain ⟨D, cfV, kV, iV, fV, hD, gV, stV, knV, obV, asV, slV⟩ := id V
  obtain ⟨D', cfC, kC, iC, fC, hD', gC, stC, -, -, asC, slC⟩ := id C
  cases hD.symm.trans hD'
  obtain ⟨D2, kD, e1, e2, e3, e4, e5⟩ := id E
  cases hD.symm.trans e1
  obtain ⟨c2, k2, i1, i2, i3, -⟩ := Cond.instantiable_spec wi
  cases e2.symm.trans i1
  cases e3.symm.trans i2
  obtain ⟨kU, u1, u2⟩ := al.2.2 _ _ e3
  have hB : Blank ST x D P.U := ⟨hD, ⟨knV, fun q hq => by rw [hq] at obV; cases obV⟩, by rw [al.findClass]; exact e2, kU, u1, by rw [u2]; exact i3, by rw [u2]; exact e5 i3⟩
  have F1 : Found ST "value" "[B" fV P.U := ⟨SBG.found_only al ⟨cfV, kV, iV, gV⟩, stV⟩
  have F2 : Found ST "coder" "B" fC P.U := ⟨SBG.found_only al ⟨cfC, kC, iC, gC⟩, stC⟩
  have hA : Ch b A P.U := ⟨⟨K.1, State.isArrayOf_alike al K.2.1, K.2.2, by omega⟩, hty⟩
  have hS : StaticIs P.U ST "COMPACT_STRINGS" "Z" (.int z) := by
    obtain ⟨cfS, iS, kS, fS, st, cS, t1, t2, t3, t4, t5, t6, t7⟩ := S
    exact StaticIs.there (s := { Z with heap := P.U.heap }) ⟨cfS, iS, kS, fS, st, cS, t1, t2, t3, t4, t5, (fun q => by rw [q] at t6; cases t6), t7⟩ al rfl
  obtain ⟨v, B, X', ⟨⟨hv, E', V', q1, q2, q3, q4, q5, q6, q7, q8, q9, q10, q11⟩, hl, hc, hs⟩, st⟩ := New1.pays x D fV fC b A z (tab_of (moved hZ hw)) hfr hlo m meth c P g ig mk _ X hg hsize hdg hW hn ⟨r1, r2, rfl, hB, F1, F2, hA, hS, hz, l0, l2, hp⟩
  have al' : Z.vm.Alike B.U.vm := hZ.alike.trans X'.warmed.alike
  have hsz : E'.slots.size = D.slots.size := by
    obtain ⟨-, -, -, kB, w1, w2, w3⟩ := q1
    obtain ⟨kB', y1, y2⟩ := al'.2.2 _ _ e3
    rw [q2.2.1] at w1
    cases w1.symm.trans y1
    rw [w3, e5 i3, y2]
  refine ⟨v, B, X', ⟨_, ⟨hv, ?_, ⟨by omega, fun y cy hy hn' => q10 y cy (by simpa using hn') hy, fun y cy hy => ?_⟩, q11, ⟨E', _, q1.1, by rw [q2.2.1]; exact e2, by rw [q2.2.1]; exact e3, by rw [q2.1]; exact obV, fun _ => by rw [hsz]; exact e5 i3⟩,
    ⟨E', cfV, kV, iV, fV, q1.1, gV, stV, by rw [q2.1]; exact knV, by rw [q2.1]; exact obV, by rw [q2.2.1]; exact asV, q3⟩, ⟨E', cfC, kC, iC, fC, q1.1, gC, stC, by rw [q2.1]; exact knV, by rw [q2.1]; exact obV, by rw [q2.2.1]; exact asC, q4⟩,
    ⟨V', ⟨q5.1, State.isArrayOf_alike al'.symm q5.2.1, q5.2.2.1⟩, q6, by rw [← al'.findClass]; exact q7, q8, fun j hj => by have := q9 j hj; rwa [Nat.zero_add] at this⟩, fun O n d w F n1 n2 => ?_⟩, hl, hc, hs⟩, st⟩
  · intro y hy
    simp only [List.mem_cons, List.not_mem_nil, or_false] at hy
    rcases hy with rfl | rfl <;> rfl
  · by_cases q : y = x
    · subst q
      cases hD.symm.trans hy
      exact ⟨E', q1.1, q2.2.1, q2.1, hsz⟩
    · exact ⟨cy, q10 y cy q hy, rfl, rfl, rfl⟩
  · obtain ⟨D3, cf, k, i, f, g1, g2, g3, g4, g5, g6, g7⟩ := F
    cases hD.symm.trans g1
    simp only [RoadKit.slotOf, g2, gV, gC, Option.map_some, Option.getD_some] at n1 n2
    exact ⟨E', cf, k, i, f, q1.1, g2, g3, by rw [q2.1]; exact g4, by rw [q2.1]; exact g5, by rw [q2.2.1]; exact g6, by rw [q2.2.2 f.slot (by simp [n1, n2])]; exact g7⟩
end StrChars.Road
namespace StrChars.Road
open Jvm Sem ClassFile Op Lib Jvm.Stand Jvm.Free Jvm.Free.XT
/-- WHAT COMES BACK, the byte[] as a list of values -/
def QA (Z : State) (x : Addr) (zn : Int32) (cs : List Int32) (h : Heap) (v : Option Value) (h' : Heap) (L : List Loc) : Prop := v = none ∧ (∀ y ∈ L, y.base = x) ∧ RoadKit.Keep h h' [x] ∧ h'.size = h.size + 1 ∧ RoadKit.Exa Z h' x ST ∧ RoadKit.Fld Z h' x ST "value" "[B" (.ref h.size) ∧ RoadKit.Fld Z h' x ST "coder" "B" (.int 0) ∧
  (∃ kb, Z.vm.findClass "[B" = some kb ∧ RoadKit.Arv Z h' h.size kb .byte zn (cs.map fun c => .int (lo8 c)) (.int 0)) ∧
  ∀ (O n d : String) (w : Value), RoadKit.Fld Z h x O n d w → RoadKit.slotOf Z O n d ≠ RoadKit.slotOf Z ST "value" "[B" → RoadKit.slotOf Z O n d ≠ RoadKit.slotOf Z ST "coder" "B" → RoadKit.Fld Z h' x O n d w
/-- **new String(chars) AT A CALL, THE ARRAYS AS LISTS**: the char[] at b holds cs, not empty, no char above 255 -/
theorem backArv {p : Program} {l : Launch} {e : Env} {R : Room} {s : State} {args : Array Value} {below : List Frame} {len W : Nat} {Z : State} {a0 : Array Value} {h : Heap} (hZ : Z.Warmed39 s.vm) (hw : ∀ d ∈ words, d.before a0 Z = true) {kI : Nat} (wi : (Jvm.Cond.instantiable ST kI).before a0 Z = true)
    {x b : Addr} {k : ClassId} {zn z : Int32} {cs : List Int32} {dv v0 c0 : Value} (E : RoadKit.Exa Z h x ST) (V : RoadKit.Fld Z h x ST "value" "[B" v0) (C : RoadKit.Fld Z h x ST "coder" "B" c0) (K : RoadKit.Arv Z h b k .char zn (cs.map Value.int) dv) (S : RoadKit.Sta Z h ST "COMPACT_STRINGS" "Z" (.int z)) (hz : ¬ z = 0)
    (hlen : zn.toNatClampNeg = cs.length) (h0 : 0 < cs.length) (hbig : cs.length ≤ 536870912) (hall : ∀ c ∈ cs, ¬ 255 < c) (hfr : 4 ≤ R.frames) (hlo : W + 65 ≤ R.locals) :
    Back l R p e below s args New1.yN len W (fun P a => a = #[.ref x, .ref b] ∧ P.U.heap = h ∧ P.cells + 1 ≤ R.cells ∧ P.slots + cs.length ≤ R.slots)
      (fun P _ v B => ∃ L, QA Z x zn cs h v B.U.heap L ∧ B.locs = P.locs ++ L ∧ B.cells = P.cells + 1 ∧ B.slots = P.slots + cs.length) := by
  obtain ⟨A, K1, K2, K3, K4, K5, K6⟩ := K
  have e : A.slots.size = cs.length := K3.trans hlen
  have hat : ∀ (i : Nat) (hi : i < cs.length), A.slots[i]? = some (.int cs[i]) := fun i hi => by rw [K5 i (by omega)]; simp [List.getD_eq_getElem?_getD, hi]
  have hcv : ∀ (i : Nat) (hi : i < cs.length), cv A i = cs[i] := fun i hi => by unfold cv; rw [hat i hi]
  have hty : Typed .char A := fun i v hv => by
    have hi : i < A.slots.size := (Array.getElem?_eq_some_iff.mp hv).1
    have q := K5 i hi
    rw [hv] at q
    rw [Option.some.inj q]
    exact K6 i hi
  refine Back.mono (back hZ hw wi E V C K1 hty S hz (by omega) (by omega) (fun i hi => by rw [hcv i (by omega)]; exact hall _ (List.getElem_mem _)) hfr hlo) (fun P a hp => ⟨hp.1, hp.2.1, hp.2.2.1, by rw [e]; exact hp.2.2.2⟩) (fun P a v B hp hq => ?_)
  obtain ⟨L, ⟨q1, q2, q3, q4, q5, q6, q7, ⟨V', v1, v2, v3, v4, v5⟩, q9⟩, hl, hc, hs⟩ := hq
  refine ⟨L, ⟨q1, q2, q3, q4, q5, q6, q7, ⟨V'.cls, v3, V', v1, rfl, by rw [v4, e, hlen], K4, fun i hi => ?_, fun i hi => ?_⟩, q9⟩, hl, hc, by rw [hs, e]⟩
  · have hi' : i < cs.length := by omega
    rw [v5 i (by omega), hcv i hi']; simp [List.getD_eq_getElem?_getD, hi']
  · have hi' : i < cs.length := by omega
    simp only [List.getD_eq_getElem?_getD, List.getElem?_map, List.getElem?_eq_getElem hi', Option.map_some, Option.getD_some]
    exact fits_lo8 _
end StrChars.Road
namespace StrChars.Road
open Jvm Sem ClassFile Op Lib Jvm.Stand Jvm.Free Jvm.Free.XT
/-- WHAT COMES BACK, in the writer's own shape -/
def QV (Z : State) (x : Addr) (N : Int32) (bs : List Int32) (h : Heap) (n0 : Nat) (v : Option Value) (h' : Heap) (L : List Loc) : Prop := v = none ∧ RoadKit.Fr n0 L ∧ RoadKit.Keep h h' [x] ∧ RoadKit.Exa Z h' x ST ∧ RoadKit.Fld Z h' x ST "coder" "B" (.int 0) ∧
  ∃ (t : Addr) (kb : ClassId), n0 ≤ t ∧ h.size ≤ t ∧ ¬ t = x ∧ RoadKit.Fld Z h' x ST "value" "[B" (.ref t) ∧ RoadKit.Arv Z h' t kb .byte N (bs.map Value.int) (.int 0)
/-- **new String(chars) AT A CALL, FOR THE WRITER**: a char[] of n known ints, each 0 to 255 -/
theorem backV {p : Program} {l : Launch} {e : Env} {R : Room} {s : State} {args : Array Value} {below : List Frame} {len W : Nat} {Z : State} {a0 : Array Value} {h : Heap} (hZ : Z.Warmed39 s.vm) (hw : ∀ d ∈ words, d.before a0 Z = true) {kI : Nat} (wi : (Jvm.Cond.instantiable ST kI).before a0 Z = true)
    {x b : Addr} {kC : ClassId} {cs bs : List Int32} {d v0 c0 : Value} {z N : Int32} {n n0 : Nat} (hx0 : n0 ≤ x) (hh0 : n0 ≤ h.size) (E : RoadKit.Exa Z h x ST) (V : RoadKit.Fld Z h x ST "value" "[B" v0) (C : RoadKit.Fld Z h x ST "coder" "B" c0) (K : RoadKit.Arv Z h b kC .char N (cs.map Value.int) d) (S : RoadKit.Sta Z h ST "COMPACT_STRINGS" "Z" (.int z)) (hz : ¬ z = 0)
    (hn : cs.length = n) (hN : N = Int32.ofNat n) (l0 : 0 < n) (l2 : n ≤ 4000) (hp : ∀ c ∈ cs, ¬ c < 0 ∧ ¬ (255 : Int32) < c) (hb : bs = cs.map (fun c => c.toInt8.toInt32)) (hfr : 4 ≤ R.frames) (hlo : W + 65 ≤ R.locals) :
    Back l R p e below s args (⟨"java/lang/String", "<init>", "([C)V"⟩ : MethodName) len W (fun P a => a = #[.ref x, .ref b] ∧ P.U.heap = h ∧ P.cells + 1 ≤ R.cells ∧ P.slots + n ≤ R.slots)
      (fun P _ v B => ∃ L, QV Z x N bs h n0 v B.U.heap L ∧ B.locs = P.locs ++ L ∧ B.cells = P.cells + 1 ∧ B.slots = P.slots + n) := by
  subst hn hN hb
  refine Back.mono (backArv hZ hw wi E V C K S hz (n32 (by omega)) l0 (by omega) (fun c hc => (hp c hc).2) hfr hlo) (fun P a hp => hp) (fun P a v B hp hq => ?_)
  obtain ⟨L, ⟨q1, q2, q3, q4, q5, q6, q7, ⟨kb, v1, v2⟩, q9⟩, hl, hc, hs⟩ := hq
  exact ⟨L, ⟨q1, fun y hy => by rw [q2 y hy]; exact hx0, q3, q5, q7, h.size, kb, hh0, Nat.le_refl _, Nat.ne_of_gt E.lt, q6, by rw [List.map_map]; exact v2⟩, hl, hc, hs⟩
end StrChars.Road
namespace StrChars
open Jvm Sem ClassFile Op Lib Jvm.Stand Jvm.Free.XT Jvm.Free.ALB Jvm.Free.JM Jvm.Free
open Jvm.Lib.Cold (StaticIs)
def hi8 (x : Int32) : Int32 := lo8 (x >>> ((8 : Int32) &&& 31))
/-- what StringUTF16.getChar makes of two bytes -/
def pairCh (u v : Int32) : Int32 := (((u &&& 255) <<< ((0 : Int32) &&& 31)) ||| ((v &&& 255) <<< ((8 : Int32) &&& 31))).toUInt32.toUInt16.toUInt32.toInt32
theorem lo8_and (x : Int32) : (lo8 x &&& 255).toBitVec.toNat = x.toBitVec.toNat % 256 := by
  have h : (lo8 x).toBitVec = (x.toBitVec.signExtend 8).signExtend 32 := by rw [lo8, Int8.toBitVec_toInt32, Int32.toBitVec_toInt8]
  rw [Int32.toBitVec_and, BitVec.toNat_and, h]
  have e : ((x.toBitVec.signExtend 8).signExtend 32).toNat % 256 = x.toBitVec.toNat % 256 := by
    rw [BitVec.toNat_signExtend]
    have hlt := x.toBitVec.isLt
    simp only [BitVec.toNat_setWidth, BitVec.toNat_signExtend]
    split <;> split <;> omega
  rw [← e]
  exact Nat.and_two_pow_sub_one_eq_mod _ 8
theorem pair_says {c : Int32} (h0 : ¬ c < 0) (h1 : ¬ 65535 < c) : pairCh (lo8 c) (hi8 c) = c := by
  rw [Int32.lt_iff_toInt_lt] at h0 h1
  have e0 : (0 : Int32).toInt = 0 := rfl
  have e1 : (65535 : Int32).toInt = 65535 := rfl
  have hc : c.toInt = c.toBitVec.toNat := by
    have := c.toBitVec.isLt
    have e : c.toInt = c.toBitVec.toInt := rfl
    rw [e] at h0 h1
    rw [e]
    rw [BitVec.toInt_eq_toNat_cond] at h0 h1 ⊢
    split at h0 <;> split <;> omega
  have hn : c.toBitVec.toNat < 65536 := by omega
  have a1 := lo8_and c
  have a2 : (hi8 c &&& 255).toBitVec.toNat = c.toBitVec.toNat / 256 := by
    rw [hi8, lo8_and]
    have e : ((8 : Int32) &&& 31) = 8 := by decide
    rw [e, Int32.toBitVec_shiftRight]
    have e2 : ((8 : Int32).toBitVec.smod 32) = 8#32 := by decide
    rw [e2, BitVec.sshiftRight_eq', BitVec.toNat_sshiftRight_of_msb_false (by rw [BitVec.msb_eq_false_iff_two_mul_lt]; omega)]
    show c.toBitVec.toNat >>> 8 % 256 = _
    rw [Nat.shiftRight_eq_div_pow]
    omega
  unfold pairCh
  apply Int32.toBitVec_inj.mp
  apply BitVec.eq_of_toNat_eq
  have f0 : ((0 : Int32) &&& 31) = 0 := by decide
  have f8 : ((8 : Int32) &&& 31) = 8 := by decide
  rw [f0, f8]
  have g : (((lo8 c &&& 255) <<< (0 : Int32)) ||| ((hi8 c &&& 255) <<< (8 : Int32))).toBitVec.toNat = c.toBitVec.toNat := by
    rw [Int32.toBitVec_or, Int32.toBitVec_shiftLeft, Int32.toBitVec_shiftLeft]
    have s0 : ((0 : Int32).toBitVec.smod 32) = 0#32 := by decide
    have s8 : ((8 : Int32).toBitVec.smod 32) = 8#32 := by decide
    rw [s0, s8, BitVec.toNat_or]
    simp only [BitVec.shiftLeft_eq', BitVec.toNat_shiftLeft, a1, a2]
    show (c.toBitVec.toNat % 256) <<< 0 % 2 ^ 32 ||| (c.toBitVec.toNat / 256) <<< 8 % 2 ^ 32 = _
    rw [Nat.shiftLeft_zero, Nat.mod_eq_of_lt (show c.toBitVec.toNat % 256 < 2 ^ 32 by omega), Nat.mod_eq_of_lt (show (c.toBitVec.toNat / 256) <<< 8 < 2 ^ 32 by rw [Nat.shiftLeft_eq]; omega), Nat.or_comm, ← Nat.shiftLeft_add_eq_or_of_lt (by omega), Nat.shiftLeft_eq]
    omega
  show BitVec.toNat (((((lo8 c &&& 255) <<< (0 : Int32)) ||| ((hi8 c &&& 255) <<< (8 : Int32))).toBitVec.setWidth 16).setWidth 32) = _
  rw [BitVec.toNat_setWidth, BitVec.toNat_setWidth, g]
  omega
end StrChars
namespace StrChars
open Jvm Sem ClassFile Op Lib Jvm.Stand Jvm.Free.XT Jvm.Free.ALB Jvm.Free.JM Jvm.Free
open Jvm.Lib.Cold (StaticIs)
/-- charAt's cast of a byte read back -/
def chr8 (u : Int32) : Int32 := (u &&& 255).toUInt32.toUInt16.toUInt32.toInt32
theorem chr8_lo8 {c : Int32} (h0 : ¬ c < 0) (h1 : ¬ 255 < c) : chr8 (lo8 c) = c := by
  have t : ∀ k : Fin 256, (Int32.ofNat k.val).toUInt32.toUInt16.toUInt32.toInt32 = Int32.ofNat k.val := by decide +kernel
  unfold chr8
  rw [lo8_mask h0 h1]
  rw [Int32.lt_iff_toInt_lt] at h0 h1
  have e0 : (0 : Int32).toInt = 0 := rfl
  have e1 : (255 : Int32).toInt = 255 := rfl
  obtain ⟨k, hk⟩ : ∃ k : Nat, c.toInt = k := ⟨c.toInt.toNat, by omega⟩
  have hx : c = Int32.ofNat k := Int32.toInt_inj.mp (by rw [hk, Int32.toInt_ofNat_small (by omega)])
  rw [hx]
  exact t ⟨k, by omega⟩
theorem narrow_ch {c : Int32} (h0 : ¬ c < 0) (h1 : ¬ 65535 < c) : narrow .char (.int c) = .int c := by
  have q : narrow .char (.int (pairCh (lo8 c) (hi8 c))) = .int (pairCh (lo8 c) (hi8 c)) := narrow_c _
  rwa [pair_says h0 h1] at q
/-- the array's cell V codes the n chars f 0 .. f (n - 1) by the coder cd, as the JDK does: coder 1 just where some char is above 255 -/
def Cod (cd : Int32) (n : Nat) (f : Nat → Int32) (V : Cell) : Prop := (cd = 0 ∧ V.slots.size = n ∧ ∀ j, j < n → V.slots[j]? = some (.int (lo8 (f j))) ∧ ¬ 255 < f j) ∨ (cd = 1 ∧ V.slots.size = 2 * n ∧ (∀ j, j < n → V.slots[2 * j]? = some (.int (lo8 (f j))) ∧ V.slots[2 * j + 1]? = some (.int (hi8 (f j)))) ∧ ∃ j, j < n ∧ 255 < f j)
theorem Cod.cd {cd : Int32} {n : Nat} {f : Nat → Int32} {V : Cell} (h : Cod cd n f V) : cd = 0 ∨ cd = 1 := h.imp (fun q => q.1) fun q => q.1
/-- **x is a String of the n chars f 0 .. f (n - 1)**, Latin-1 or UTF-16; its array at t has the cell V -/
def Txt (x t : Addr) (V : Cell) (cd : Int32) (n : Nat) (f : Nat → Int32) (U : State) : Prop := Exact "java/lang/String" x U ∧ Has x "java/lang/String" "value" "[B" (.ref t) U ∧ Has x "java/lang/String" "coder" "B" (.int cd) U ∧ XT.Arr .byte t V U ∧ Cod cd n f V ∧ ∀ j, j < n → ¬ f j < 0 ∧ ¬ 65535 < f j
theorem Txt.mv {x t : Addr} {V : Cell} {cd : Int32} {n : Nat} {f : Nat → Int32} {U U' : State} (h : Txt x t V cd n f U) (hal : U.vm.Alike U'.vm) (hh : U'.heap = U.heap) : Txt x t V cd n f U' := ⟨h.1.mv hal hh, h.2.1.mv hal hh, h.2.2.1.mv hal hh, h.2.2.2.1.mv hal hh, h.2.2.2.2⟩
namespace IsL
def yN : MethodName := ⟨"java/lang/String", "isLatin1", "()Z"⟩
abbrev yB : ByteArray := jdk_42_method_154_code
theorem d0 : decode yB 0 = .ok (.getstatic 38, 3) := by decide +kernel
theorem d3 : decode yB 3 = .ok (.ifCond (.eq) 14, 3) := by decide +kernel
theorem d6 : decode yB 6 = .ok (.aload_n 0, 1) := by decide +kernel
theorem d7 : decode yB 7 = .ok (.getfield 15, 3) := by decide +kernel
theorem d10 : decode yB 10 = .ok (.ifCond (.ne) 7, 3) := by decide +kernel
theorem d13 : decode yB 13 = .ok (.iconst 1, 1) := by decide +kernel
theorem d14 : decode yB 14 = .ok (.goto 4, 3) := by decide +kernel
theorem d17 : decode yB 17 = .ok (.iconst 0, 1) := by decide +kernel
theorem d18 : decode yB 18 = .ok (.ireturn, 1) := by decide +kernel
def site : List Cond := [.fieldLink "java/lang/String" 38 "java/lang/String" "COMPACT_STRINGS" "Z", .fieldLink "java/lang/String" 15 "java/lang/String" "coder" "B"]
def tab : Cond := tabOf yN yB 1 (some .boolean) site
def P (x : Addr) (cd z : Int32) (args : Array Value) (s : State) : Prop := args = #[.ref x] ∧ Has x "java/lang/String" "coder" "B" (.int cd) s ∧ (cd = 0 ∨ cd = 1) ∧ StaticIs s "java/lang/String" "COMPACT_STRINGS" "Z" (.int z) ∧ ¬ z = 0
def E (cd : Int32) (r : Option Value) (s u : State) : Prop := XT.PureE (some (.int (1 - cd))) r s u
theorem law (l : Launch) (x : Addr) (cd z : Int32) : Law l yN 1 0 0 0 yB 1 (some .boolean) site (P x cd z) (E cd) [] 0 0 := by
  refine Law.of_walk (plainFor_of_name (by decide +kernel)) (by decide +kernel) (by decide +kernel) (by decide) (fun _ _ h => by rw [h.1]; rfl) (fun _ U U' hal hh h => ⟨h.1, h.2.1.mv hal hh, h.2.2.1, h.2.2.2.1.there hal hh, h.2.2.2.2⟩) (fun r U U' V V' h1 hal h2 h => XT.PureE.mv r U U' V V' h1 hal h2 h) ?_
  intro p e s m args below meth c s₁ X0 hexec hbytes hml hret hlk hnm hown hh0 W hP
  obtain ⟨rfl, hx, hc, s1, hz⟩ := hP
  have c1 : Steps p.tables e below (s₁.setTop (entryFrame m #[.ref x] 1)) (s₁.setTop (mkF m 0 #[.val (.ref x)] [])) := entry rfl
  obtain ⟨T2, X2, q2, st2⟩ := X0.sget hexec hown (wk W (.fieldLink "java/lang/String" 38 "java/lang/String" "COMPACT_STRINGS" "Z")) s1 (fun _ _ h => by rw [hh0]; exact h) (g := (mkF m 0 #[.val (.ref x)] [])) rfl (hb hbytes d0)
  have hh2 := q2.trans hh0
  have c3 : Steps p.tables e below (s₁.setTop (entryFrame m #[.ref x] 1)) (T2.setTop (mkF m 7 #[.val (.ref x)] [.ref x])) := (c1.trans (st2 _ (Steps.refl _))).trans (by
    refine XS.ifNo X2.here hexec rfl (hb hbytes d3) rfl (i0_eq_f hz) ?_
    refine XS.aloadN X2.here hexec rfl (hb hbytes d6) rfl rfl ?_
    exact Steps.refl _)
  obtain ⟨T4, X4, q4, st4⟩ := X2.hget hexec hown (wk W (.fieldLink "java/lang/String" 15 "java/lang/String" "coder" "B")) (hx.mv X2.warmed.alike hh2) (g := (mkF m 7 #[.val (.ref x)] [.ref x])) rfl (rest := []) rfl (hb hbytes d7)
  have c5 : Steps p.tables e below (s₁.setTop (entryFrame m #[.ref x] 1)) (T4.setTop (mkF m 10 #[.val (.ref x)] [.int cd])) := c3.trans (st4 _ (Steps.refl _))
  have c6 : Steps p.tables e below (s₁.setTop (entryFrame m #[.ref x] 1)) (T4.setTop (mkF m 18 #[.val (.ref x)] [.int (1 - cd)])) := by
    rcases hc with rfl | rfl
    · exact c5.trans (by
        refine XS.ifNo X4.here hexec rfl (hb hbytes d10) rfl (i0_ne_f rfl) ?_
        refine iconstV X4.here hexec rfl 1 (hb hbytes d13) (by decide) ?_
        refine XS.goto X4.here hexec rfl (pc0 := 14) rfl (hb hbytes d14) (by decide) rfl ?_
        exact Steps.refl _)
    · exact c5.trans (by
        refine XS.ifYes X4.here hexec rfl (pc0 := 10) rfl (hb hbytes d10) rfl (i0_ne_t (by decide)) (by decide) rfl ?_
        refine iconstV X4.here hexec rfl 0 (hb hbytes d17) (by decide) ?_
        exact Steps.refl _)
  exact ⟨T4, some (.int (1 - cd)), _, _, _, X4, rfl, rfl, rfl, (fun h => by cases h), ⟨rfl, q4.trans hh2⟩, fun fs hl => c6.trans (X4.ireturnOut hexec hret (by rcases hc with rfl | rfl <;> rfl) (Or.inr (Or.inl rfl)) (hb hbytes d18) hl)⟩
end IsL
namespace LChA
def yN : MethodName := ⟨"java/lang/StringLatin1", "charAt", "([BI)C"⟩
abbrev yB : ByteArray := jdk_43_method_2_code
theorem d0 : decode yB 0 = .ok (.iload_n 1, 1) := by decide +kernel
theorem d1 : decode yB 1 = .ok (.aload_n 0, 1) := by decide +kernel
theorem d2 : decode yB 2 = .ok (.arraylength, 1) := by decide +kernel
theorem d3 : decode yB 3 = .ok (.invokestatic 9, 3) := by decide +kernel
theorem d6 : decode yB 6 = .ok (.aload_n 0, 1) := by decide +kernel
theorem d7 : decode yB 7 = .ok (.iload_n 1, 1) := by decide +kernel
theorem d8 : decode yB 8 = .ok (.baload, 1) := by decide +kernel
theorem d9 : decode yB 9 = .ok (.sipush 255, 3) := by decide +kernel
theorem d12 : decode yB 12 = .ok (.iand, 1) := by decide +kernel
theorem d13 : decode yB 13 = .ok (.i2c, 1) := by decide +kernel
theorem d14 : decode yB 14 = .ok (.ireturn, 1) := by decide +kernel
def site : List Cond := [JO.Str_checkIndex.tab] ++ staticW "java/lang/StringLatin1" 9 JO.Str_checkIndex.yN
def tab : Cond := tabOf yN yB 2 (some .char) site
def P (t : Addr) (V : Cell) (i : Nat) (u : Int32) (fm : Value) (args : Array Value) (s : State) : Prop := args = #[.ref t, .int (Int32.ofNat i)] ∧ XT.Arr .byte t V s ∧ V.slots[i]? = some (.int u) ∧ (StaticIs s "jdk/internal/util/Preconditions" "SIOOBE_FORMATTER" "Ljava/util/function/BiFunction;" fm ∧ fm.isRef = true)
def E (u : Int32) (r : Option Value) (s w : State) : Prop := XT.PureE (some (.int (chr8 u))) r s w
theorem law (l : Launch) (t : Addr) (V : Cell) (i : Nat) (u : Int32) (fm : Value) : Law l yN 2 2 2 27 yB 2 (some .char) site (P t V i u fm) (E u) [] 0 0 := by
  refine Law.of_walk (plainFor_of_name (by decide +kernel)) (by decide +kernel) (by decide +kernel) (by decide) (fun _ _ h => by rw [h.1]; rfl) (fun _ U U' hal hh h => ⟨h.1, h.2.1.mv hal hh, h.2.2.1, h.2.2.2.1.there hal hh, h.2.2.2.2⟩) (fun r U U' V V' h1 hal h2 h => XT.PureE.mv r U U' V V' h1 hal h2 h) ?_
  intro p e s m args below meth c s₁ X0 hexec hbytes hml hret hlk hnm hown hh0 W hP
  obtain ⟨rfl, hV, hu, s1, rf⟩ := hP
  have v31 := hV.2.2.2
  have hi : i < V.slots.size := (Array.getElem?_eq_some_iff.mp hu).1
  have c1 : Steps p.tables e below (s₁.setTop (entryFrame m #[.ref t, .int (Int32.ofNat i)] 2)) (s₁.setTop (mkF m 0 #[.val (.ref t), .val (.int (Int32.ofNat i))] [])) := entry rfl
  have c2 : Steps p.tables e below (s₁.setTop (entryFrame m #[.ref t, .int (Int32.ofNat i)] 2)) (s₁.setTop (mkF m 3 #[.val (.ref t), .val (.int (Int32.ofNat i))] [.int (Int32.ofNat V.slots.size), .int (Int32.ofNat i)])) := c1.trans (by
    refine XS.iloadN X0.here hexec rfl (hb hbytes d0) rfl ?_
    refine XS.aloadN X0.here hexec rfl (hb hbytes d1) rfl rfl ?_
    refine X0.alen hexec (hV.mv X0.warmed.alike hh0) rfl rfl (hb hbytes d2) ?_
    exact Steps.refl _)
  obtain ⟨v3, T3, X3, E3, g3⟩ := X0.callS hexec (JO.Str_checkIndex.law l (Int32.ofNat i) (Int32.ofNat V.slots.size) fm) hown (wks W (staticW "java/lang/StringLatin1" 9 JO.Str_checkIndex.yN)) (wk W JO.Str_checkIndex.tab) (W := 0) (Nat.le_of_ble_eq_true rfl) (Nat.le_of_ble_eq_true rfl) (Nat.le_refl _) (Nat.le_refl _) (g := (mkF m 3 #[.val (.ref t), .val (.int (Int32.ofNat i))] [.int (Int32.ofNat V.slots.size), .int (Int32.ofNat i)])) rfl (by rw [hml]; rfl) c2 (argsL := [.int (Int32.ofNat i), .int (Int32.ofNat V.slots.size)]) (rest := []) rfl rfl (by show 2 * 0 + 0 ≤ _; decide) (hb hbytes d3) (⟨rfl, rf, s1.there X0.warmed.alike hh0, Int32.ofNat_not_neg (by omega), lt32 v31 hi⟩)
  obtain ⟨rfl, q3⟩ := E3
  have hh3 := q3.trans hh0
  have c4 : Steps p.tables e below (s₁.setTop (entryFrame m #[.ref t, .int (Int32.ofNat i)] 2)) (T3.setTop (mkF m 14 #[.val (.ref t), .val (.int (Int32.ofNat i))] [.int (chr8 u)])) := Steps.trans g3 (by
    refine XS.aloadN X3.here hexec rfl (hb hbytes d6) rfl rfl ?_
    refine XS.iloadN X3.here hexec rfl (hb hbytes d7) rfl ?_
    refine X3.aget hexec (hV.mv X3.warmed.alike hh3) rfl hu rfl rfl (hb hbytes d8) ?_
    refine sipushV X3.here hexec rfl 255 (hb hbytes d9) (by decide) ?_
    refine XS.iand X3.here hexec rfl (hb hbytes d12) rfl ?_
    refine i2c X3.here hexec rfl (hb hbytes d13) rfl ?_
    exact Steps.refl _)
  exact ⟨T3, some (.int (chr8 u)), _, _, _, X3, rfl, rfl, rfl, (fun h => by cases h), ⟨rfl, hh3⟩, fun fs hl => c4.trans (X3.ireturnOut hexec hret (narrow_c _) (Or.inr (Or.inr (Or.inr (Or.inl rfl)))) (hb hbytes d14) hl)⟩
end LChA
end StrChars
namespace StrChars.Road
open Jvm Sem ClassFile Op Lib Jvm.Stand Jvm.Free Jvm.Free.XT
open Jvm.Lib.Cold (StaticIs)
theorem consq {a : Array Value} {s : State} {c : Jvm.Cond} {L : List Jvm.Cond} (h0 : c.before a s = true) (h : ∀ w ∈ L, w.before a s = true) : ∀ w ∈ c :: L, w.before a s = true := fun w hw => (List.mem_cons.mp hw).elim (fun e => e ▸ h0) (h w)
/-- the bytes of the chars cs, low before high -/
def wideBytes : List Int32 → List Value
  | [] => []
  | c :: cs => .int (lo8 c) :: .int (hi8 c) :: wideBytes cs
theorem wide_lo (d : Value) : ∀ (cs : List Int32) (j : Nat), j < cs.length → (wideBytes cs).getD (2 * j) d = .int (lo8 (cs.getD j 0))
  | [], j, h => absurd h (Nat.not_lt_zero j)
  | c :: cs, 0, _ => rfl
  | c :: cs, j + 1, h => by
    have q := wide_lo d cs j (by simpa using h)
    rw [show 2 * (j + 1) = 2 * j + 1 + 1 from by omega]
    simpa [wideBytes] using q
theorem wide_hi (d : Value) : ∀ (cs : List Int32) (j : Nat), j < cs.length → (wideBytes cs).getD (2 * j + 1) d = .int (hi8 (cs.getD j 0))
  | [], j, h => absurd h (Nat.not_lt_zero j)
  | c :: cs, 0, _ => rfl
  | c :: cs, j + 1, h => by
    have q := wide_hi d cs j (by simpa using h)
    rw [show 2 * (j + 1) + 1 = 2 * j + 1 + 1 + 1 from by omega]
    simpa [wideBytes] using q
theorem low_at (d : Value) (cs : List Int32) (j : Nat) (h : j < cs.length) : (cs.map fun c => Value.int (lo8 c)).getD j d = .int (lo8 (cs.getD j 0)) := by
  simp [List.getD_eq_getElem?_getD, h]
/-- an array of N2 bytes vs codes the chars cs by the coder cd -/
def CodA (cs : List Int32) (cd N2 : Int32) (vs : List Value) : Prop := (cd = 0 ∧ N2 = Int32.ofNat cs.length ∧ vs = (cs.map fun c => Value.int (lo8 c)) ∧ ∀ c ∈ cs, ¬ 255 < c) ∨ (cd = 1 ∧ N2 = Int32.ofNat (2 * cs.length) ∧ vs = wideBytes cs ∧ ∃ c ∈ cs, 255 < c)
theorem CodA.cod {cs : List Int32} {cd N2 : Int32} {vs : List Value} {V : Cell} (h : CodA cs cd N2 vs) (hn : 2 * cs.length < 2 ^ 31) (hs : V.slots.size = N2.toNatClampNeg) (hv : RoadKit.Has V vs (.int 0)) : Cod cd cs.length (fun j => cs.getD j 0) V := by
  rcases h with ⟨rfl, rfl, rfl, h⟩ | ⟨rfl, rfl, rfl, c, hc, hw⟩
  · rw [n32 (by omega)] at hs
    exact Or.inl ⟨rfl, hs, fun j hj => ⟨by rw [hv j (by omega), low_at _ _ _ hj], by
      have e : cs.getD j 0 = cs[j] := by simp [List.getD_eq_getElem?_getD, hj]
      show ¬ 255 < cs.getD j 0
      rw [e]; exact h _ (List.getElem_mem _)⟩⟩
  · rw [n32 (by omega)] at hs
    obtain ⟨j, hj, rfl⟩ := List.getElem_of_mem hc
    exact Or.inr ⟨rfl, hs, fun j hj => ⟨by rw [hv _ (by omega), wide_lo _ _ _ hj], by rw [hv _ (by omega), wide_hi _ _ _ hj]⟩, j, hj, by
      have e : cs.getD j 0 = cs[j] := by simp [List.getD_eq_getElem?_getD, hj]
      show 255 < cs.getD j 0
      rw [e]; exact hw⟩
/-- an object of exactly java/lang/String, its two fields found: as the laws ask it -/
theorem strObj {Z U : State} {a0 : Array Value} {kI : Nat} (wi : (Jvm.Cond.instantiable ST kI).before a0 Z = true) (al : Z.vm.Alike U.vm) {x : Addr} {v0 c0 : Value} (E : RoadKit.Exa Z U.heap x ST) (V : RoadKit.Fld Z U.heap x ST "value" "[B" v0) (C : RoadKit.Fld Z U.heap x ST "coder" "B" c0) :
    ∃ (D : Cell) (fV fC : Field), Blank ST x D U ∧ Found ST "value" "[B" fV U ∧ Found ST "coder" "B" fC U ∧ D.slots[fV.slot]? = some v0 ∧ D.slots[fC.slot]? = some c0 ∧ RoadKit.slotOf Z ST "value" "[B" = fV.slot ∧ RoadKit.slotOf Z ST "coder" "B" = fC.slot := by
  obtain ⟨D, cfV, kV, iV, fV, hD, gV, stV, knV, obV, asV, slV⟩ := V
  obtain ⟨D', cfC, kC, iC, fC, hD', gC, stC, -, -, asC, slC⟩ := C
  cases hD.symm.trans hD'
  obtain ⟨D2, kD, e1, e2, e3, e4, e5⟩ := E
  cases hD.symm.trans e1
  obtain ⟨c2, k2, i1, i2, i3, -⟩ := Cond.instantiable_spec wi
  cases e2.symm.trans i1
  cases e3.symm.trans i2
  obtain ⟨kU, u1, u2⟩ := al.2.2 _ _ e3
  exact ⟨D, fV, fC, ⟨hD, ⟨knV, fun q hq => by rw [hq] at obV; cases obV⟩, by rw [al.findClass]; exact e2, kU, u1, by rw [u2]; exact i3, by rw [u2]; exact e5 i3⟩, ⟨SBG.found_only al ⟨cfV, kV, iV, gV⟩, stV⟩, ⟨SBG.found_only al ⟨cfC, kC, iC, gC⟩, stC⟩, slV, slC, by simp [RoadKit.slotOf, gV], by simp [RoadKit.slotOf, gC]⟩
theorem sta_is {Z U : State} (al : Z.vm.Alike U.vm) {C n d : String} {v : Value} (S : RoadKit.Sta Z U.heap C n d v) : StaticIs U C n d v := by
  obtain ⟨cfS, iS, kS, fS, st, cS, t1, t2, t3, t4, t5, t6, t7⟩ := S
  exact StaticIs.there (s := { Z with heap := U.heap }) ⟨cfS, iS, kS, fS, st, cS, t1, t2, t3, t4, t5, (fun q => by rw [q] at t6; cases t6), t7⟩ al rfl
end StrChars.Road
namespace StrChars.Road
open Jvm Sem ClassFile Op Lib Jvm.Stand Jvm.Free Jvm.Free.XT
open Jvm.Lib.Cold (StaticIs)
/-- the road's facts of a String, as the laws ask it -/
theorem txt_of {Z U : State} {a0 : Array Value} {kI : Nat} (wi : (Jvm.Cond.instantiable ST kI).before a0 Z = true) (al : Z.vm.Alike U.vm) {x t : Addr} {kb : ClassId} {cs : List Int32} {cd N2 : Int32} {vs : List Value} (E : RoadKit.Exa Z U.heap x ST) (V : RoadKit.Fld Z U.heap x ST "value" "[B" (.ref t)) (C : RoadKit.Fld Z U.heap x ST "coder" "B" (.int cd)) (K : RoadKit.Arv Z U.heap t kb .byte N2 vs (.int 0)) (hc : CodA cs cd N2 vs) (hb : ∀ c ∈ cs, ¬ c < 0 ∧ ¬ (65535 : Int32) < c) (l2 : cs.length ≤ 4000) :
    ∃ A, Txt x t A cd cs.length (fun j => cs.getD j 0) U := by
  obtain ⟨A, K1, K2, K3, K4, K5, K6⟩ := K
  have hcod := hc.cod (by omega) K3 K5
  obtain ⟨D, fV, fC, hB, F1, F2, g1, g2, -, -⟩ := strObj wi al E V C
  exact ⟨A, ⟨_, hB.2.2.1, D, hB.1, rfl, by cases q : D.vm <;> first | rfl | exact absurd q (hB.2.1.2 _)⟩, Has.of hB F1 g1, Has.of hB F2 g2, ⟨K1.1, State.isArrayOf_alike al K1.2.1, K1.2.2, by rcases hcod with ⟨-, q, -⟩ | ⟨-, q, -⟩ <;> omega⟩, hcod, fun j hj => by
    have e : cs.getD j 0 = cs[j] := by simp [List.getD_eq_getElem?_getD, hj]
    show ¬ cs.getD j 0 < 0 ∧ ¬ 65535 < cs.getD j 0
    rw [e]; exact hb _ (List.getElem_mem _)⟩
end StrChars.Road
namespace StrChars
open Jvm Sem ClassFile Op Lib Jvm.Stand Jvm.Free.XT Jvm.Free.ALB Jvm.Free.JM Jvm.Free
open Jvm.Lib.Cold (StaticIs)
namespace ChN
def yN : MethodName := ⟨"java/lang/String", "charAt", "(I)C"⟩
abbrev yB : ByteArray := jdk_42_method_56_code
theorem d0 : decode yB 0 = .ok (.aload_n 0, 1) := by decide +kernel
theorem d1 : decode yB 1 = .ok (.invokevirtual 492, 3) := by decide +kernel
theorem d4 : decode yB 4 = .ok (.ifCond (.eq) 12, 3) := by decide +kernel
theorem d7 : decode yB 7 = .ok (.aload_n 0, 1) := by decide +kernel
theorem d8 : decode yB 8 = .ok (.getfield 9, 3) := by decide +kernel
theorem d11 : decode yB 11 = .ok (.iload_n 1, 1) := by decide +kernel
theorem d12 : decode yB 12 = .ok (.invokestatic 495, 3) := by decide +kernel
theorem d15 : decode yB 15 = .ok (.ireturn, 1) := by decide +kernel
def site : List Cond := [.fieldLink "java/lang/String" 9 "java/lang/String" "value" "[B", IsL.tab, LChA.tab] ++ virtW "java/lang/String" 492 "java/lang/String" IsL.yN IsL.yN ++ staticW "java/lang/String" 495 LChA.yN
def tab : Cond := tabOf yN yB 2 (some .char) site
def P (x t : Addr) (V : Cell) (n : Nat) (f : Nat → Int32) (z : Int32) (fm : Value) (i : Nat) (args : Array Value) (s : State) : Prop := args = #[.ref x, .int (Int32.ofNat i)] ∧ Txt x t V 0 n f s ∧ i < n ∧ StaticIs s "java/lang/String" "COMPACT_STRINGS" "Z" (.int z) ∧ ¬ z = 0 ∧ StaticIs s "jdk/internal/util/Preconditions" "SIOOBE_FORMATTER" "Ljava/util/function/BiFunction;" fm ∧ fm.isRef = true
def E (f : Nat → Int32) (i : Nat) (r : Option Value) (s u : State) : Prop := XT.PureE (some (.int (f i))) r s u
/-- charAt(i) of a Latin-1 String of n chars, i < n: f i -/
theorem law (l : Launch) (x t : Addr) (V : Cell) (n : Nat) (f : Nat → Int32) (z : Int32) (fm : Value) (i : Nat) : Law l yN 2 1 3 40 yB 2 (some .char) site (P x t V n f z fm i) (E f i) [] 0 0 := by
  refine Law.of_walk (plainFor_of_name (by decide +kernel)) (by decide +kernel) (by decide +kernel) (by decide) (fun _ _ h => by rw [h.1]; rfl) (fun _ U U' hal hh h => ⟨h.1, h.2.1.mv hal hh, h.2.2.1, h.2.2.2.1.there hal hh, h.2.2.2.2.1, h.2.2.2.2.2.1.there hal hh, h.2.2.2.2.2.2⟩) (fun r U U' V V' h1 hal h2 h => XT.PureE.mv r U U' V V' h1 hal h2 h) ?_
  intro p e s m args below meth c s₁ X0 hexec hbytes hml hret hlk hnm hown hh0 W hP
  obtain ⟨rfl, hx, hi, s1, hz, s3, rf⟩ := hP
  have v31 := hx.2.2.2.1.2.2.2
  have hr := hx.2.2.2.2.2 i hi
  have hx0 := hx.mv X0.warmed.alike hh0
  have c1 : Steps p.tables e below (s₁.setTop (entryFrame m #[.ref x, .int (Int32.ofNat i)] 2)) (s₁.setTop (mkF m 1 #[.val (.ref x), .val (.int (Int32.ofNat i))] [.ref x])) := Steps.trans (entry rfl) (by
    show Steps p.tables e below (s₁.setTop (mkF m 0 #[.val (.ref x), .val (.int (Int32.ofNat i))] [])) _
    refine XS.aloadN X0.here hexec rfl (hb hbytes d0) rfl rfl ?_
    exact Steps.refl _)
  obtain ⟨v2, T2, X2, E2, g2⟩ := X0.callV hexec (IsL.law l x 0 z) hown (wks W (virtW "java/lang/String" 492 "java/lang/String" IsL.yN IsL.yN)) rfl (by decide) (wk W IsL.tab) (W := 0) (Nat.le_of_ble_eq_true rfl) (Nat.le_of_ble_eq_true rfl) (Nat.le_refl _) (Nat.le_refl _) (hx0.1.fc X0.warmed.alike) hx0.1.is (g := (mkF m 1 #[.val (.ref x), .val (.int (Int32.ofNat i))] [.ref x])) rfl (by rw [hml]; rfl) c1 (argsL := []) (rest := []) rfl rfl (by show 2 * 0 + 0 ≤ _; decide) (hb hbytes d1) (⟨rfl, hx0.2.2.1, hx.2.2.2.2.1.cd, s1.there X0.warmed.alike hh0, hz⟩)
  obtain ⟨rfl, q2⟩ := E2
  have hh2 := q2.trans hh0
  have hx2 := hx.mv X2.warmed.alike hh2
  obtain ⟨-, k1, k2⟩ | ⟨k0, -⟩ := hx.2.2.2.2.1
  · have c3 : Steps p.tables e below (s₁.setTop (entryFrame m #[.ref x, .int (Int32.ofNat i)] 2)) (T2.setTop (mkF m 8 #[.val (.ref x), .val (.int (Int32.ofNat i))] [.ref x])) := Steps.trans g2 (by
      refine XS.ifNo X2.here hexec rfl (hb hbytes d4) rfl (i0_eq_f (by decide)) ?_
      refine XS.aloadN X2.here hexec rfl (hb hbytes d7) rfl rfl ?_
      exact Steps.refl _)
    obtain ⟨T4, X4, q4, st4⟩ := X2.hget hexec hown (wk W (.fieldLink "java/lang/String" 9 "java/lang/String" "value" "[B")) hx2.2.1 (g := (mkF m 8 #[.val (.ref x), .val (.int (Int32.ofNat i))] [.ref x])) rfl (rest := []) rfl (hb hbytes d8)
    have hh4 := q4.trans hh2
    have c5 : Steps p.tables e below (s₁.setTop (entryFrame m #[.ref x, .int (Int32.ofNat i)] 2)) (T4.setTop (mkF m 12 #[.val (.ref x), .val (.int (Int32.ofNat i))] [.int (Int32.ofNat i), .ref t])) := (c3.trans (st4 _ (Steps.refl _))).trans (by
      refine XS.iloadN X4.here hexec rfl (hb hbytes d11) rfl ?_
      exact Steps.refl _)
    obtain ⟨v6, T6, X6, E6, g6⟩ := X4.callS hexec (LChA.law l t V i (lo8 (f i)) fm) hown (wks W (staticW "java/lang/String" 495 LChA.yN)) (wk W LChA.tab) (W := 0) (Nat.le_of_ble_eq_true rfl) (Nat.le_of_ble_eq_true rfl) (Nat.le_refl _) (Nat.le_refl _) (g := (mkF m 12 #[.val (.ref x), .val (.int (Int32.ofNat i))] [.int (Int32.ofNat i), .ref t])) rfl (by rw [hml]; rfl) c5 (argsL := [.ref t, .int (Int32.ofNat i)]) (rest := []) rfl rfl (by show 2 * 0 + 0 ≤ _; decide) (hb hbytes d12) (⟨rfl, hx.2.2.2.1.mv X4.warmed.alike hh4, (k2 i hi).1, s3.there X4.warmed.alike hh4, rf⟩)
    obtain ⟨rfl, q6⟩ := E6
    rw [chr8_lo8 hr.1 (k2 i hi).2] at g6
    exact ⟨T6, some (.int (f i)), _, _, _, X6, rfl, rfl, rfl, (fun h => by cases h), ⟨rfl, q6.trans hh4⟩, fun fs hl => Steps.trans g6 (X6.ireturnOut hexec hret (narrow_ch hr.1 hr.2) (Or.inr (Or.inr (Or.inr (Or.inl rfl)))) (hb hbytes d15) hl)⟩
  · exact absurd k0 (by decide)
theorem pays {l : Launch} {R : Room} {p : Program} {e : Env} {below : List Frame} {s : State} {sargs : Array Value} {len W : Nat} (x t : Addr) (V : Cell) (n : Nat) (f : Nat → Int32) (z : Int32) (fm : Value) (i : Nat) (htab : tab.before sargs s = true) (hfr : 4 ≤ R.frames) (hlo : W + 53 ≤ R.locals) :
    Back l R p e below s sargs yN len W (fun A₁ a₁ => A₁.cells + 0 ≤ R.cells ∧ A₁.slots + 0 ≤ R.slots ∧ P x t V n f z fm i a₁ A₁.U) (fun A₁ _ v₁ B₁ => E f i v₁ A₁.U B₁.U ∧ B₁.locs = A₁.locs ++ [] ∧ B₁.cells = A₁.cells + 0 ∧ B₁.slots = A₁.slots + 0) :=
  (law l x t V n f z fm i).pays htab hfr (by omega)
end ChN
end StrChars
namespace StrChars.Road
open Jvm Sem ClassFile Op Lib Jvm.Stand Jvm.Free Jvm.Free.XT
open Jvm.Lib.Cold (StaticIs)
/-- the words of String.charAt(int), the Latin-1 road alone -/
abbrev wordsChN : List Jvm.Cond := [.code ChN.yN ChN.yB 2 (some .char), .initialized ST, .fieldLink ST 9 ST "value" "[B", .fieldLink ST 38 ST "COMPACT_STRINGS" "Z", .fieldLink ST 15 ST "coder" "B", .code IsL.yN IsL.yB 1 (some .boolean), .methodLink ST 492 IsL.yN, .declares IsL.yN, .selects ST IsL.yN IsL.yN, .instanceMethod IsL.yN,
  .methodLink ST 495 LChA.yN, .static LChA.yN, .code LChA.yN LChA.yB 2 (some .char), .initialized "java/lang/StringLatin1", .methodLink "java/lang/StringLatin1" 9 JO.Str_checkIndex.yN, .static JO.Str_checkIndex.yN, .code JO.Str_checkIndex.yN JO.Str_checkIndex.yB 2 none,
  .fieldLink ST 1053 "jdk/internal/util/Preconditions" "SIOOBE_FORMATTER" "Ljava/util/function/BiFunction;", .methodLink ST 1059 JC.PreCheck.yN, .static JC.PreCheck.yN, .code JC.PreCheck.yN JC.PreCheck.yB 3 (some .int), .initialized "jdk/internal/util/Preconditions"]
theorem tabChN_of {a : Array Value} {s : State} (h : ∀ w ∈ wordsChN, w.before a s = true) : ChN.tab.before a s = true := by
  have hp : JC.PreCheck.tab.before a s = true := unparts (wk h (.code JC.PreCheck.yN JC.PreCheck.yB 3 (some .int))) (wks h (.initialized JC.PreCheck.yN.cls :: JC.PreCheck.site))
  have qk := consq hp h
  have hk : JO.Str_checkIndex.tab.before a s = true := unparts (wk qk (.code JO.Str_checkIndex.yN JO.Str_checkIndex.yB 2 none)) (wks qk (.initialized JO.Str_checkIndex.yN.cls :: JO.Str_checkIndex.site))
  have ql := consq hk h
  have hl : LChA.tab.before a s = true := unparts (wk ql (.code LChA.yN LChA.yB 2 (some .char))) (wks ql (.initialized LChA.yN.cls :: LChA.site))
  have hi : IsL.tab.before a s = true := unparts (wk h (.code IsL.yN IsL.yB 1 (some .boolean))) (wks h (.initialized IsL.yN.cls :: IsL.site))
  have q := consq hi (consq hl h)
  exact unparts (wk q (.code ChN.yN ChN.yB 2 (some .char))) (wks q (.initialized ChN.yN.cls :: ChN.site))
theorem movedChN {Z s : State} {a0 args : Array Value} (hZ : Z.Warmed39 s.vm) (hw : ∀ d ∈ wordsChN, d.before a0 Z = true) : ∀ d ∈ wordsChN, d.before args s = true := fun d hd => by
  have t : ∀ d ∈ wordsChN, (d.onTables && d.keepsFace) = true := by decide +kernel
  exact RoadKit.mv hZ (hw d hd) (t d hd)
/-- **charAt(i) OF A LATIN-1 STRING**, i < n: the char -/
theorem chN {p : Program} {l : Launch} {e : Env} {R : Room} {s : State} {args : Array Value} {below : List Frame} {len W : Nat} {Z : State} {a0 : Array Value} {h : Heap} (hZ : Z.Warmed39 s.vm) (hw : ∀ d ∈ wordsChN, d.before a0 Z = true) {kI : Nat} (wi : (Jvm.Cond.instantiable ST kI).before a0 Z = true)
    {x t : Addr} {kb : ClassId} {cs : List Int32} {N2 z : Int32} {vs : List Value} {fm : Value} {i : Nat} {j : Int32} (E : RoadKit.Exa Z h x ST) (V : RoadKit.Fld Z h x ST "value" "[B" (.ref t)) (C : RoadKit.Fld Z h x ST "coder" "B" (.int 0)) (K : RoadKit.Arv Z h t kb .byte N2 vs (.int 0)) (hc : CodA cs 0 N2 vs) (hb : ∀ c ∈ cs, ¬ c < 0 ∧ ¬ (65535 : Int32) < c)
    (S : RoadKit.Sta Z h ST "COMPACT_STRINGS" "Z" (.int z)) (hz : ¬ z = 0) (F : RoadKit.Sta Z h "jdk/internal/util/Preconditions" "SIOOBE_FORMATTER" "Ljava/util/function/BiFunction;" fm) (rf : fm.isRef = true) (l2 : cs.length ≤ 4000) (hi : i < cs.length) (hj : j = Int32.ofNat i) (hfr : 4 ≤ R.frames) (hlo : W + 53 ≤ R.locals) :
    Back l R p e below s args (⟨"java/lang/String", "charAt", "(I)C"⟩ : MethodName) len W (fun P a => a = #[.ref x, .int j] ∧ P.U.heap = h ∧ P.cells + 0 ≤ R.cells ∧ P.slots + 0 ≤ R.slots)
      (fun P _ v B => ∃ L, (v = some (.int (cs.getD i 0)) ∧ L = [] ∧ B.U.heap = h) ∧ B.locs = P.locs ++ L ∧ B.cells = P.cells + 0 ∧ B.slots = P.slots + 0) := by
  subst hj
  intro m meth c P g ig mk a X hg hsize hdg hW hn hp'
  obtain ⟨rfl, rfl, r1, r2⟩ := hp'
  have al : Z.vm.Alike P.U.vm := hZ.alike.trans X.warmed.alike
  obtain ⟨A, hx⟩ := txt_of wi al E V C K hc hb l2
  obtain ⟨v, B, X', ⟨⟨hv, hh⟩, hl, hk, hs⟩, st⟩ := ChN.pays x t A cs.length (fun j => cs.getD j 0) z fm i (tabChN_of (movedChN hZ hw)) hfr hlo m meth c P g ig mk _ X hg hsize hdg hW hn ⟨r1, r2, rfl, hx, hi, sta_is al S, hz, sta_is al F, rf⟩
  exact ⟨v, B, X', ⟨[], ⟨hv, rfl, hh⟩, hl, hk, hs⟩, st⟩
/-- what backV says of its String, as the contracts of this text ask it: cs's low bytes, coder 0 -/
theorem codOf {cs : List Int32} {n : Nat} (hn : cs.length = n) (hb : ∀ c ∈ cs, ¬ 255 < c) : CodA cs 0 (Int32.ofNat n) ((cs.map lo8).map Value.int) := Or.inl ⟨rfl, by rw [hn], by simp [List.map_map, Function.comp_def], hb⟩
end StrChars.Road
end Jvm.Pilot.@@N@@

@@BLOCK:TracedD.lean.txt@@
namespace Jvm.RoadKit
open Sem ClassFile Op Lib Jvm.Stand Jvm.Free Jvm.LawKit
theorem own_dloadN {tb : Tables} [Ours tb] {e : Env} {below : List Frame} {T target : State} {m : MethodId} {c : Code} {g : JFrame} (h : At T m c below) (hx : tb.exec = Jvm.exec) (hg : g.method = m) {k : Fin 4} {v : UInt64} (hd : decode c.code g.pc = .ok (.dload_n k, 1)) (hl : g.locals[k.val]? = some (.val (.double v)))
    (hr : Steps tb e below (T.setTop { g with pc := g.pc + 1, stack := .double v :: g.stack }) target) : Steps tb e below (T.setTop g) target := by
  subst hg
  jvm_step h [h.top, hx, hd, hl]
  exact hr
theorem own_dload {tb : Tables} [Ours tb] {e : Env} {below : List Frame} {T target : State} {m : MethodId} {c : Code} {g : JFrame} (h : At T m c below) (hx : tb.exec = Jvm.exec) (hg : g.method = m) {k : Nat} {v : UInt64} (hd : decode c.code g.pc = .ok (.dload k, 2)) (hl : g.locals[k]? = some (.val (.double v)))
    (hr : Steps tb e below (T.setTop { g with pc := g.pc + 2, stack := .double v :: g.stack }) target) : Steps tb e below (T.setTop g) target := by
  subst hg
  jvm_step h [h.top, hx, hd, hl]
  exact hr
theorem own_dstoreN {tb : Tables} [Ours tb] {e : Env} {below : List Frame} {T target : State} {m : MethodId} {c : Code} {g : JFrame} (h : At T m c below) (hx : tb.exec = Jvm.exec) (hg : g.method = m) {k : Fin 4} {x : UInt64} {rest : List Value} {l' : Array Slot} (hd : decode c.code g.pc = .ok (.dstore_n k, 1)) (hs : g.stack = .double x :: rest) (hl : storeLocals g.locals k.val (.double x) = some l')
    (hr : Steps tb e below (T.setTop { g with pc := g.pc + 1, stack := rest, locals := l' }) target) : Steps tb e below (T.setTop g) target := by
  subst hg
  jvm_step h [h.top, hx, hd, hs, hl]
  exact hr
theorem own_dstore {tb : Tables} [Ours tb] {e : Env} {below : List Frame} {T target : State} {m : MethodId} {c : Code} {g : JFrame} (h : At T m c below) (hx : tb.exec = Jvm.exec) (hg : g.method = m) {k : Nat} {x : UInt64} {rest : List Value} {l' : Array Slot} (hd : decode c.code g.pc = .ok (.dstore k, 2)) (hs : g.stack = .double x :: rest) (hl : storeLocals g.locals k (.double x) = some l')
    (hr : Steps tb e below (T.setTop { g with pc := g.pc + 2, stack := rest, locals := l' }) target) : Steps tb e below (T.setTop g) target := by
  subst hg
  jvm_step h [h.top, hx, hd, hs, hl]
  exact hr
theorem own_dconst0 {tb : Tables} [Ours tb] {e : Env} {below : List Frame} {T target : State} {m : MethodId} {c : Code} {g : JFrame} (h : At T m c below) (hx : tb.exec = Jvm.exec) (hg : g.method = m) (hd : decode c.code g.pc = .ok (.dconst 0, 1))
    (hr : Steps tb e below (T.setTop { g with pc := g.pc + 1, stack := .double FP.dconst0 :: g.stack }) target) : Steps tb e below (T.setTop g) target := by
  subst hg
  jvm_step h [h.top, hx, hd]
  exact hr
theorem own_dconst1 {tb : Tables} [Ours tb] {e : Env} {below : List Frame} {T target : State} {m : MethodId} {c : Code} {g : JFrame} (h : At T m c below) (hx : tb.exec = Jvm.exec) (hg : g.method = m) (hd : decode c.code g.pc = .ok (.dconst 1, 1))
    (hr : Steps tb e below (T.setTop { g with pc := g.pc + 1, stack := .double FP.dconst1 :: g.stack }) target) : Steps tb e below (T.setTop g) target := by
  subst hg
  jvm_step h [h.top, hx, hd]
  exact hr
theorem own_i2d {tb : Tables} [Ours tb] {e : Env} {below : List Frame} {T target : State} {m : MethodId} {c : Code} {g : JFrame} (h : At T m c below) (hx : tb.exec = Jvm.exec) (hg : g.method = m) {x : Int32} {rest : List Value} (hd : decode c.code g.pc = .ok (.i2d, 1)) (hs : g.stack = .int x :: rest)
    (hr : Steps tb e below (T.setTop { g with pc := g.pc + 1, stack := .double (FP.i2d x) :: rest }) target) : Steps tb e below (T.setTop g) target := by
  subst hg
  jvm_step h [h.top, hx, hd, hs]
  exact hr
theorem own_l2d {tb : Tables} [Ours tb] {e : Env} {below : List Frame} {T target : State} {m : MethodId} {c : Code} {g : JFrame} (h : At T m c below) (hx : tb.exec = Jvm.exec) (hg : g.method = m) {x : Int64} {rest : List Value} (hd : decode c.code g.pc = .ok (.l2d, 1)) (hs : g.stack = .long x :: rest)
    (hr : Steps tb e below (T.setTop { g with pc := g.pc + 1, stack := .double (FP.l2d x) :: rest }) target) : Steps tb e below (T.setTop g) target := by
  subst hg
  jvm_step h [h.top, hx, hd, hs]
  exact hr
theorem own_d2l {tb : Tables} [Ours tb] {e : Env} {below : List Frame} {T target : State} {m : MethodId} {c : Code} {g : JFrame} (h : At T m c below) (hx : tb.exec = Jvm.exec) (hg : g.method = m) {x : UInt64} {rest : List Value} (hd : decode c.code g.pc = .ok (.d2l, 1)) (hs : g.stack = .double x :: rest)
    (hr : Steps tb e below (T.setTop { g with pc := g.pc + 1, stack := .long (FP.d2l x) :: rest }) target) : Steps tb e below (T.setTop g) target := by
  subst hg
  jvm_step h [h.top, hx, hd, hs]
  exact hr
theorem own_ddiv {tb : Tables} [Ours tb] {e : Env} {below : List Frame} {T target : State} {m : MethodId} {c : Code} {g : JFrame} (h : At T m c below) (hx : tb.exec = Jvm.exec) (hg : g.method = m) {x y : UInt64} {rest : List Value} (hd : decode c.code g.pc = .ok (.ddiv, 1)) (hs : g.stack = .double y :: .double x :: rest) (hn : FP.ddiv x y &&& 0x7fffffffffffffff ≤ 0x7ff0000000000000)
    (hr : Steps tb e below (T.setTop { g with pc := g.pc + 1, stack := .double (FP.ddiv x y) :: rest }) target) : Steps tb e below (T.setTop g) target := by
  subst hg
  jvm_step h [h.top, hx, hd, Op.ddiv.wp_number (s := T) (f := g) (by rw [h.top]) hs hn]
  exact hr
theorem own_dadd {tb : Tables} [Ours tb] {e : Env} {below : List Frame} {T target : State} {m : MethodId} {c : Code} {g : JFrame} (h : At T m c below) (hx : tb.exec = Jvm.exec) (hg : g.method = m) {x y : UInt64} {rest : List Value} (hd : decode c.code g.pc = .ok (.dadd, 1)) (hs : g.stack = .double y :: .double x :: rest) (hn : FP.dadd x y &&& 0x7fffffffffffffff ≤ 0x7ff0000000000000)
    (hr : Steps tb e below (T.setTop { g with pc := g.pc + 1, stack := .double (FP.dadd x y) :: rest }) target) : Steps tb e below (T.setTop g) target := by
  subst hg
  jvm_step h [h.top, hx, hd, Op.dadd.wp_number (s := T) (f := g) (by rw [h.top]) hs hn]
  exact hr
theorem own_dmul {tb : Tables} [Ours tb] {e : Env} {below : List Frame} {T target : State} {m : MethodId} {c : Code} {g : JFrame} (h : At T m c below) (hx : tb.exec = Jvm.exec) (hg : g.method = m) {x y : UInt64} {rest : List Value} (hd : decode c.code g.pc = .ok (.dmul, 1)) (hs : g.stack = .double y :: .double x :: rest) (hn : FP.dmul x y &&& 0x7fffffffffffffff ≤ 0x7ff0000000000000)
    (hr : Steps tb e below (T.setTop { g with pc := g.pc + 1, stack := .double (FP.dmul x y) :: rest }) target) : Steps tb e below (T.setTop g) target := by
  subst hg
  jvm_step h [h.top, hx, hd, Op.dmul.wp_number (s := T) (f := g) (by rw [h.top]) hs hn]
  exact hr
theorem own_dcmp {tb : Tables} [Ours tb] {e : Env} {below : List Frame} {T target : State} {m : MethodId} {c : Code} {g : JFrame} (h : At T m c below) (hx : tb.exec = Jvm.exec) (hg : g.method = m) {x y : UInt64} {op : CmpOp} {rest : List Value} (hd : decode c.code g.pc = .ok (.dcmp op, 1)) (hs : g.stack = .double y :: .double x :: rest)
    (hr : Steps tb e below (T.setTop { g with pc := g.pc + 1, stack := .int (cmpValue (FP.dcmp x y) op) :: rest }) target) : Steps tb e below (T.setTop g) target := by
  subst hg
  jvm_step h [h.top, hx, hd, hs]
  exact hr
end Jvm.RoadKit
namespace Jvm.RoadKit
open Sem ClassFile Op Lib Jvm.Stand Jvm.Free Jvm.LawKit
section New
variable {p : Program} {l : Launch} {e : Env} {R : Room} {s : State} {m : MethodId} {args : Array Value} {below : List Frame} {meth : Method} {c : Code} {T : State} {locs : List Loc} {cells slots : Nat}
theorem retI (X : Stand p l e R s m args below meth c T locs cells slots) (hx : p.tables.exec = Jvm.exec) {pc : Nat} {Ls : Array Slot} {z : Int32} {rest : List Value} (hret : meth.sig.returnType = some .int) (hd : decode c.code pc = .ok (.ireturn, 1)) {fs : List Frame}
    (hl : ∀ (f : JFrame) (acts : List Action), f.method = m → f.locked = none → f.entered = [] → (doReturn e (T.setTop f) acts (some (.int z))).1 = T.setFrames fs) : Steps p.tables e below (T.setTop (mkF m pc Ls (.int z :: rest))) (T.setFrames fs) := by
  have hm' : T.vm.method? m = some meth := X.method'
  have hn : narrow .int (.int z) = .int z := rfl
  show Steps p.tables e below (T.setTop { method := m, pc := pc, locals := Ls, stack := _ :: rest, locked := none }) _
  jvm_step X.here [X.here.top, hx, hd, hm', hret, hn]
  first | (intro acts; rw [hl _ acts rfl rfl rfl]) | rw [hl _ _ rfl rfl rfl]
  exact Steps.refl _
theorem own_lremM {g : JFrame} {target : State} (X : Stand p l e R s m args below meth c T locs cells slots) (hx : p.tables.exec = Jvm.exec) (hg : g.method = m) {x y : Int64} {rest : List Value} (hd : decode c.code g.pc = .ok (.lrem, 1)) (hs : g.stack = .long y :: .long x :: rest) (hy : y ≠ 0)
    (hr : Steps p.tables e below (T.setTop { g with pc := g.pc + 1, stack := .long (x % y) :: rest }) target) : Steps p.tables e below (T.setTop g) target := by
  have q : x - (x / y) * y = x % y := lrem_mod x y
  exact XS.lrem X.here hx hg hd hs hy (by rw [q]; exact hr)
end New
end Jvm.RoadKit
namespace Jvm.Pilot.@@N@@
open Jvm Jvm.ClassFile Sem Op Lib Jvm.Free Jvm.Stand Jvm.LawKit Jvm.RoadKit Bundle Jvm.Pilot.@@N@@.Jvm.D
theorem own_frmono {k k' : Nat} {L : List Loc} (h : k' ≤ k) (N : Fr k L) : Fr k' L := fun y hy => Nat.le_trans h (N y hy)
theorem own_gen {P : List Loc → Prop} {k : Nat} {L : List Loc} (X : P L) (N : Fr k L) : ∃ L', P L' ∧ Fr k L' := ⟨L, X, N⟩
theorem own_notin0 {a : Addr} : a ∉ ([] : List Addr) := fun q => nomatch q
theorem own_notin1 {a b : Addr} (h : a ≠ b) : a ∉ [b] := fun q => h (List.mem_singleton.mp q)
theorem own_narb {x : Int32} (h : x = 0 ∨ x = 1) : nar .boolean x = x := by rcases h with rfl | rfl <;> rfl
theorem own_notin2 {a b c : Addr} (h : a ≠ b) (h' : a ≠ c) : a ∉ [b, c] := fun q => (List.mem_cons.mp q).elim h (fun q => h' (List.mem_singleton.mp q))
theorem own_all2 {P : Addr → Prop} {a b : Addr} (h : P a) (h' : P b) : ∀ x ∈ [a, b], P x := fun x q => by
  rcases List.mem_cons.mp q with rfl | q
  · exact h
  · cases List.mem_singleton.mp q; exact h'
theorem own_all0 {P : Addr → Prop} : ∀ x ∈ ([] : List Addr), P x := fun _ q => nomatch q
theorem own_all1 {P : Addr → Prop} {a : Addr} (h : P a) : ∀ x ∈ [a], P x := fun x q => by cases List.mem_singleton.mp q; exact h
theorem own_ibeq {Z s : State} {vm : Vm} {Ts : List String} (h : s.WarmedH vm) (I : IB Z s.vm Ts) : IB Z vm Ts := by
  obtain ⟨more, q1, q2⟩ := I
  exact ⟨more, by rw [h.interned_eq]; exact q1, q2⟩
theorem own_backOfS {p : Program} {l : Launch} {e : Env} {R : Room} {s : State} {args : Array Value} {below : List Frame} {Z : State} {a0 : Array Value} {h : Heap} {y : MethodName} {bytes : ByteArray} {maxL : Nat} {ret : Option FieldType} {rm : Room} {len W : Nat} {as' : Array Value} {Q : Option Value → Heap → Vm → List Loc → Prop} {Ts : List String}
    (hM : MetFree l y (head1 [Jvm.Cond.code y bytes maxL ret] rm) (fun a U => a = as' ∧ Z.Warmed39 U.vm ∧ U.heap = h ∧ IB Z U.vm Ts) (fun _ _ _ _ _ => True) (fun _ U o U' => ∃ v L, o = .returned v ∧ Q v U'.heap U'.vm L ∧ ReturnedEndW U o U' L rm.cells rm.slots))
    (hZ : Z.Warmed39 s.vm) (hI : IB Z s.vm Ts) (wc : (Jvm.Cond.code y bytes maxL ret).before a0 Z = true) (wz : (Jvm.Cond.initialized y.cls).before a0 Z = true) (hf : rm.frames + 1 ≤ R.frames) (hl : W + (maxL + 11) + rm.locals ≤ R.locals) :
    BackS l R p e below s args y len W (fun A a => a = as' ∧ A.U.heap = h ∧ A.cells + rm.cells ≤ R.cells ∧ A.slots + rm.slots ≤ R.slots)
      (fun A _ v B => ∃ L, Q v B.U.heap B.U.vm L ∧ B.locs = A.locs ++ L ∧ B.cells = A.cells + rm.cells ∧ B.slots = A.slots + rm.slots) :=
  BackS.of_freeW (bytes := bytes) (maxL := maxL) (ret := ret) (E := fun _ _ o t L k n => k = rm.cells ∧ n = rm.slots ∧ ∃ v, o = .returned v ∧ Q v t.heap t.vm L) hM hf hl
    (fun m meth c A a Y hp => have hU : Z.Warmed39 A.U.vm := wtrans hZ Y.warmed
      ⟨by show (Jvm.Cond.and _ .tt).before a A.U = true; rw [Cond.before_and, mv hU wc]; rfl, mv hU wc, mv hU wz, hp.2.2.1, hp.2.2.2⟩)
    (fun m meth c A a g mk Y hp => ⟨hp.1, wtrans hZ Y.warmed, hp.2.1, own_ibeq Y.warmed hI⟩) (fun _ _ _ _ _ _ _ _ _ => trivial)
    (fun _ _ _ _ ⟨v, L, h1, h2, h3⟩ => ⟨L, _, _, h3, rfl, rfl, v, h1, h2⟩)
    (fun m meth c A a g mk v t L k n Y hp _ _ ⟨e1, e2, v', e3, e4⟩ => by cases e3; subst e1 e2; exact ⟨L, e4, rfl, rfl, rfl⟩)
def OldL (Z : State) (n0 : Nat) (h : Heap) : Prop := Z.heap.size ≤ n0 ∧ Ext Z.heap h
theorem OldL.start (s : State) : OldL s s.heap.size s.heap := ⟨Nat.le_refl _, Nat.le_refl _, fun _ _ q => q⟩
theorem OldL.up {Z : State} {n0 n1 : Nat} {h : Heap} (X : OldL Z n0 h) (q : n0 ≤ n1) : OldL Z n1 h := ⟨Nat.le_trans X.1 q, X.2⟩
theorem OldL.ext {Z : State} {n0 : Nat} {h h' : Heap} (X : OldL Z n0 h) (E : Ext h h') : OldL Z n0 h' := ⟨X.1, Nat.le_trans X.2.1 E.1, fun x c q => E.2 x c (X.2.2 x c q)⟩
theorem OldL.keep {Z : State} {n0 : Nat} {h h' : Heap} {ws : List Addr} (X : OldL Z n0 h) (K : Keep h h' ws) (q : ∀ x ∈ ws, n0 ≤ x) : OldL Z n0 h' := ⟨X.1, Nat.le_trans X.2.1 K.1, fun x c r => K.2.1 x c (X.2.2 x c r) fun z => absurd (Array.getElem?_eq_some_iff.mp r).1 (Nat.not_lt.mpr (Nat.le_trans X.1 (q x z)))⟩
theorem OldL.wr {Z : State} {n0 : Nat} {h h' : Heap} {a : Addr} {sl : Nat} {v : Value} (X : OldL Z n0 h) (W : Wr h h' a sl v) (q : n0 ≤ a) : OldL Z n0 h' := X.keep (Keep.of_wr W) (allS q all0)
theorem own_declares {Z : State} {a0 : Array Value} {y : MethodName} {b : ByteArray} {k : Nat} {r : Option FieldType} (wi : (Jvm.Cond.instanceMethod y).before a0 Z = true) (wc : (Jvm.Cond.code y b k r).before a0 Z = true) : (Jvm.Cond.declares y).before a0 Z = true := by
  obtain ⟨mk, methM, hn, hm, hst, -⟩ := Cond.instanceMethod_spec wi
  obtain ⟨m2, cM, q1, -, -, -, -, -, -, hsig⟩ := Cond.code_spec hn wc
  cases hm.symm.trans q1
  simp [Cond.before, Cond.holds, Cond.value, hn, hm, hst, hsig]
theorem own_notface {Z : State} {a0 : Array Value} {C : String} {y y' : MethodName} (wi : (Jvm.Cond.instanceMethod y').before a0 Z = true) (ws : (Jvm.Cond.selects C y' y').before a0 Z = true) (hc : y'.cls = y.cls) : NotFace Z y := fun r0 h0 => by
  obtain ⟨mk, methM, hn, hm, hst, -⟩ := Cond.instanceMethod_spec wi
  obtain ⟨kP, hk, hi⟩ := notFace_of_selects ws _ hn
  have c1 := findClass_of_methodNamed hn
  have c2 := findClass_of_methodNamed h0
  rw [hc, c2] at c1
  have e : r0.cls = mk.cls := Option.some.inj c1
  exact ⟨kP, by rw [e]; exact hk, hi⟩
theorem own_same {Z : State} {a0 : Array Value} {C : String} {y y' : MethodName} (wi : (Jvm.Cond.instanceMethod y).before a0 Z = true) (wi' : (Jvm.Cond.instanceMethod y').before a0 Z = true) (ws : (Jvm.Cond.selects C y' y').before a0 Z = true) (hc : y'.cls = y.cls) (hy : y.cls ≠ "java/lang/invoke/MethodHandle" ∧ y.cls ≠ "java/lang/invoke/VarHandle") : (Jvm.Cond.sameMethod y.cls y.cls y.name y.desc).before a0 Z = true := by
  obtain ⟨mk, methM, hn, hm, hst, -⟩ := Cond.instanceMethod_spec wi
  obtain ⟨kP, hk, hi⟩ := own_notface wi' ws hc _ hn
  have hf := State.methodFound?_of_named hn hy
  have c1 := findClass_of_methodNamed hn
  have hn' : Z.methodNamed? ⟨y.cls, y.name, y.desc⟩ = some mk := hn
  simp [Cond.before, Cond.holds, Cond.value, c1, hf, hn', hk, hi]
theorem own_exa_ne {Z : State} {h : Heap} {a b : Addr} {C D : String} (E : Exa Z h a C) (F : Exa Z h b D) (q : C ≠ D) : a ≠ b := fun e => by
  subst e
  obtain ⟨c1, k1, e1, e2, -⟩ := E
  obtain ⟨c2, k2, f1, f2, -⟩ := F
  cases e1.symm.trans f1
  exact ids_ne e2 f2 q rfl
theorem own_arv_ne {Z : State} {a0 : Array Value} {h : Heap} {a b : Addr} {k : ClassId} {ty : FieldType} {z : Int32} {vs : List Value} {d : Value} {C : String} {n : Nat} (V : Arv Z h a k ty z vs d) (F : Exa Z h b C) (wi : (Jvm.Cond.instantiable C n).before a0 Z = true) : a ≠ b := fun e => by
  subst e
  obtain ⟨c1, ⟨e1, ⟨-, k1, e2, cm, e3⟩, -⟩, -⟩ := V
  obtain ⟨c2, k2, f1, f2, f3, -⟩ := F
  cases e1.symm.trans f1
  obtain ⟨c4, k4, i1, i2, i3, -⟩ := Cond.instantiable_spec wi
  cases f2.symm.trans i1
  cases e2.symm.trans i2
  rw [i3] at e3; cases e3
theorem own_us {d : Value} {n : Nat} {vs : List Value} (h : vs.length = n) : vs = (List.range n).map fun i => vs.getD (0 + i) d := by
  subst h
  apply List.ext_getElem
  · simp
  · intro i h1 h2
    simp [List.getD_eq_getElem?_getD, h1]
theorem own_backOfSK {p : Program} {l : Launch} {e : Env} {R : Room} {s : State} {args : Array Value} {below : List Frame} {Z : State} {a0 : Array Value} {h : Heap} {y : MethodName} {bytes : ByteArray} {maxL : Nat} {ret : Option FieldType} {rm : Room} {len W : Nat} {as' : Array Value} {Q : Option Value → Heap → Vm → List Loc → Prop} {Ts : List String}
    (hM : MetFree l y (head1 [Jvm.Cond.code y bytes maxL ret] rm) (fun a U => a = as' ∧ Z.Warmed39 U.vm ∧ U.heap = h ∧ IB Z U.vm Ts) (fun _ _ bl s _ => s.vm.MethodsKnown ∧ s.vm.FramesKnown bl) (fun _ U o U' => ∃ v L, o = .returned v ∧ Q v U'.heap U'.vm L ∧ ReturnedEndW U o U' L rm.cells rm.slots))
    (hZ : Z.Warmed39 s.vm) (hI : IB Z s.vm Ts) (wc : (Jvm.Cond.code y bytes maxL ret).before a0 Z = true) (wz : (Jvm.Cond.initialized y.cls).before a0 Z = true) (hf : rm.frames + 1 ≤ R.frames) (hl : W + (maxL + 11) + rm.locals ≤ R.locals) (hTK : s.vm.MethodsKnown) (hBelow : s.vm.FramesKnown below) :
    BackS l R p e below s args y len W (fun A a => a = as' ∧ A.U.heap = h ∧ A.cells + rm.cells ≤ R.cells ∧ A.slots + rm.slots ≤ R.slots)
      (fun A _ v B => ∃ L, Q v B.U.heap B.U.vm L ∧ B.locs = A.locs ++ L ∧ B.cells = A.cells + rm.cells ∧ B.slots = A.slots + rm.slots) :=
  BackS.of_freeWG (bytes := bytes) (maxL := maxL) (ret := ret) (E := fun _ _ o t L k n => k = rm.cells ∧ n = rm.slots ∧ ∃ v, o = .returned v ∧ Q v t.heap t.vm L) hM hf hl
    (fun m meth c A a Y hp => have hU : Z.Warmed39 A.U.vm := wtrans hZ Y.warmed
      ⟨by show (Jvm.Cond.and _ .tt).before a A.U = true; rw [Cond.before_and, mv hU wc]; rfl, mv hU wc, mv hU wz, hp.2.2.1, hp.2.2.2⟩)
    (fun m meth c A a g mk Y hp => ⟨hp.1, wtrans hZ Y.warmed, hp.2.1, own_ibeq Y.warmed hI⟩) (fun m meth c A a g mk Y _ hg => Jvm.Free.known_frames Y hg hTK hBelow)
    (fun _ _ _ _ ⟨v, L, h1, h2, h3⟩ => ⟨L, _, _, h3, rfl, rfl, v, h1, h2⟩)
    (fun m meth c A a g mk v t L k n Y hp _ _ ⟨e1, e2, v', e3, e4⟩ => by cases e3; subst e1 e2; exact ⟨L, e4, rfl, rfl, rfl⟩)
def own_lo (x : Int32) : Int32 := nar .char ((x &&& (255 : Int32)).toUInt32.toUInt16.toUInt32.toInt32)
def own_hi (x : Int32) : Int32 := nar .char ((((x.toUInt32 >>> ((8 : Int32) &&& 31).toUInt32).toInt32) &&& (255 : Int32)).toUInt32.toUInt16.toUInt32.toInt32)
theorem own_lo8 (x : Int32) : ¬ own_lo x < 0 ∧ ¬ (255 : Int32) < own_lo x := by
  have h := c_and x (255 : Int32) (by decide)
  have e : own_lo x = x &&& 255 := by
    show ((x &&& (255 : Int32)).toUInt32.toUInt16.toUInt32.toInt32).toUInt32.toUInt16.toUInt32.toInt32 = _
    rw [i2c_mask, i2c_mask]
  rw [e, Int32.lt_iff_toInt_lt, Int32.lt_iff_toInt_lt]
  have e1 : (0 : Int32).toInt = 0 := rfl
  omega
theorem own_hi8 (x : Int32) : ¬ own_hi x < 0 ∧ ¬ (255 : Int32) < own_hi x := own_lo8 _
theorem own_nlo (x : Int32) : nar .char (own_lo x) = own_lo x := by
  have e : own_lo x = x &&& 255 := by
    show ((x &&& (255 : Int32)).toUInt32.toUInt16.toUInt32.toInt32).toUInt32.toUInt16.toUInt32.toInt32 = _
    rw [i2c_mask, i2c_mask]
  rw [e]; exact i2c_mask x
theorem own_nhi (x : Int32) : nar .char (own_hi x) = own_hi x := own_nlo _
theorem own_nlo8 (x : Int32) : ¬ nar .char (own_lo x) < 0 ∧ ¬ (255 : Int32) < nar .char (own_lo x) := by rw [own_nlo]; exact own_lo8 x
theorem own_nhi8 (x : Int32) : ¬ nar .char (own_hi x) < 0 ∧ ¬ (255 : Int32) < nar .char (own_hi x) := by rw [own_nhi]; exact own_hi8 x
theorem own_65 {c : Int32} (h : ¬ (255 : Int32) < c) : ¬ (65535 : Int32) < c := by
  rw [Int32.lt_iff_toInt_lt] at *
  have e1 : (255 : Int32).toInt = 255 := rfl
  have e2 : (65535 : Int32).toInt = 65535 := rfl
  omega
theorem own_wS {Z : State} {a0 : Array Value} (hw : ∀ d ∈ tables_1, d.before a0 Z = true) : ∀ a ∈ Bundle.stringAtoms, a.before a0 Z = true := fun a ha => by
  simp only [Bundle.stringAtoms, Bundle.sN, List.mem_cons, List.not_mem_nil, or_false] at ha
  rcases ha with rfl | rfl | rfl | rfl | rfl | rfl | rfl
  · exact hw _ (List.mem_of_getElem? (i := 6) rfl)
  · exact hw _ (List.mem_of_getElem? (i := 5) rfl)
  · exact hw _ (List.mem_of_getElem? (i := 19) rfl)
  · exact hw _ (List.mem_of_getElem? (i := 20) rfl)
  · exact hw _ (List.mem_of_getElem? (i := 21) rfl)
  · exact hw _ (List.mem_of_getElem? (i := 22) rfl)
  · exact hw _ (List.mem_of_getElem? (i := 23) rfl)
def own_EL : List (String × Nat) := [("java/lang/String", 7), ("kakehashi/cli/Arguments$Option", 25), ("kakehashi/cli/OptionMissingPinLaw", 46)]
theorem own_EW {Z : State} {a0 : Array Value} (hw : ∀ d ∈ tables_1, d.before a0 Z = true) : EW Z a0 own_EL := (EW.cons (text := "") (hw _ (List.mem_of_getElem? (i := 18) rfl)) (by decide) (EW.cons (text := " needs ") (hw _ (List.mem_of_getElem? (i := 116) rfl)) (by decide) (EW.cons (text := " needs ") (hw _ (List.mem_of_getElem? (i := 231) rfl)) (by decide) EW.nil)))
theorem own_safe {Z : State} {EL : List (String × Nat)} {vm : Vm} {h h' : Heap} {ws : List Addr} {x : Addr} (K : Keep h h' ws) (hs : ∀ x ∈ ws, Safe Z EL vm h x) (H : CHv Z EL vm h) (hx : h.size ≤ x) : Safe Z EL vm h' x := Safe.keep K hs H (Safe.new hx)
theorem own_safe_null {Z : State} {EL : List (String × Nat)} {vm : Vm} {h : Heap} {a : Addr} (hal : Z.vm.Alike vm) (E : Exa Z h a "java/lang/String") (F : Fld Z h a "java/lang/String" "value" "[B" .null) : Safe Z EL vm h a := fun B => by
  obtain ⟨p, -, u, a', -, q, -, G, rfl | rfl⟩ := B
  · have g1 : h[q.sa]? = some q.sC := G.ha
    obtain ⟨cS, ⟨⟨s1, s2, s3, ⟨cv, kv, iv, s4, s4'⟩, s5, s6, s7, s8, s9⟩, hfS, hcS⟩, -⟩ := G
    obtain ⟨kv', z4⟩ := ff_back (U := Wst Z vm h) hal s4
    obtain ⟨c, cf, k, i, f, f1, f2, f3, f4, f5, f6, f7⟩ := F
    cases g1.symm.trans f1
    have e := z4.symm.trans f2
    simp only [Option.some.injEq, Prod.mk.injEq] at e
    rw [e.2.2.2, f7] at s8
    cases s8
  · have g1 : h[q.sd]? = some q.SA := G.hd
    obtain ⟨c, k, e1, e2, -⟩ := E
    cases g1.symm.trans e1
    obtain ⟨cS, -, -, hB, -⟩ := G
    have hB : vm.findClass "[B" = some q.SA.cls := hB
    rw [hal.findClass] at hB
    exact ids_ne hB e2 (by decide) rfl
theorem own_shr0 (x : Int32) : (x >>> ((0 : Int32) &&& 31)) = x := by
  have e : ((0 : Int32) &&& 31) = 0 := rfl
  rw [e]; exact Int32.shiftRight_zero
theorem own_shl0 (x : Int32) : (x <<< ((0 : Int32) &&& 31)) = x := by
  have e : ((0 : Int32) &&& 31) = 0 := rfl
  rw [e]; exact Int32.shiftLeft_zero
theorem own_sub0 (x : Int32) : (x - (0 : Int32)) = x := Int32.sub_zero x
def own_P (n1 l1 : Int32) (vs : List Value) : Prop := ¬ n1 < 0 ∧ ¬ l1 < 0 ∧ n1.toNatClampNeg + l1.toNatClampNeg ≤ 16 ∧ vs.length = l1.toNatClampNeg ∧ ¬ (0 : Int32) < ((n1 + l1) - (16 : Int32))
theorem own_toarv {Z : State} {h : Heap} {a : Addr} {k : ClassId} {ty : FieldType} {z : Int32} {vs vs' : List Value} {d : Value} (V : Arv Z h a k ty z vs d) (e : vs = vs') : Arv Z h a k ty z vs' d := e ▸ V
theorem own_cp0 (n : Nat) (d : Value) (us : List Value) : ((List.replicate n d).take (0 : Int32).toNatClampNeg ++ us ++ (List.replicate n d).drop ((0 : Int32).toNatClampNeg + n)) = us := by
  have e : (0 : Int32).toNatClampNeg = 0 := rfl
  rw [e]; simp
abbrev own_B (cs : List Int32) : List Value := (cs.map StrChars.lo8).map Value.int
def own_N : List Int32 := [32, 110, 101, 101, 100, 115, 32]
abbrev own_Z16 : List Value := List.replicate 16 (Value.int (0 : Int32))
theorem own_NB : ([(Value.int (32 : Int32)), (Value.int (110 : Int32)), (Value.int (101 : Int32)), (Value.int (101 : Int32)), (Value.int (100 : Int32)), (Value.int (115 : Int32)), (Value.int (32 : Int32))] : List Value) = own_B own_N := by first | rfl | decide
theorem own_fcnt {Z : State} {h : Heap} {a : Addr} {C n d : String} {x y : Int32} (F : Fld Z h a C n d (.int x)) (e : x = y) : Fld Z h a C n d (.int y) := e ▸ F
def own_M (cs ds : List Int32) : List Int32 := cs ++ own_N ++ ds
def own_exp (cs ds : List Int32) (k : Nat) : Int32 := if k < cs.length then cs.getD k 0 else if k - cs.length < 7 then own_N.getD (k - cs.length) 0 else if k - cs.length - 7 < ds.length then ds.getD (k - cs.length - 7) 0 else -1
theorem own_i {n : Nat} (h : n ≤ 1000) : (Int32.ofNat n).toInt = n := Int32.toInt_ofNat_of_lt (by omega)
theorem own_n {n : Nat} (h : n ≤ 1000) : (Int32.ofNat n).toNatClampNeg = n := by
  show (Int32.ofNat n).toInt.toNat = n
  rw [own_i h]; omega
theorem own_ltn {a b : Nat} (ha : a ≤ 1000) (hb : b ≤ 1000) : Int32.ofNat a < Int32.ofNat b ↔ a < b := by
  rw [Int32.lt_iff_toInt_lt, own_i ha, own_i hb]; omega
theorem own_nn {n : Nat} (h : n ≤ 1000) : ¬ Int32.ofNat n < 0 := fun q => by
  have := (own_ltn h (Nat.zero_le _)).mp (show Int32.ofNat n < Int32.ofNat 0 from q); omega
theorem own_add (a b : Nat) : Int32.ofNat a + Int32.ofNat b = Int32.ofNat (a + b) := (Int32.ofNat_add _ _).symm
theorem own_subn {a b : Nat} (h : b ≤ a) : Int32.ofNat a - Int32.ofNat b = Int32.ofNat (a - b) := by
  have e : Int32.ofNat a = Int32.ofNat (a - b) + Int32.ofNat b := by rw [own_add, Nat.sub_add_cancel h]
  rw [e, Int32.add_sub_cancel]
theorem own_len (cs : List Int32) : Int32.ofNat cs.length = Int32.ofNat (own_B cs).length := by simp
theorem own_bl (cs : List Int32) : (own_B cs).length = cs.length := by simp
theorem own_pre {A vs : List Value} {n1 l1 : Int32} (hn : n1 = Int32.ofNat A.length) (hl : l1 = Int32.ofNat vs.length) (h : A.length + vs.length ≤ 16) : own_P n1 l1 vs := by
  subst hn hl
  refine ⟨own_nn (by omega), own_nn (by omega), by rw [own_n (by omega), own_n (by omega)]; exact h, (own_n (by omega)).symm, fun q => ?_⟩
  rw [own_add, Int32.lt_iff_toInt_lt, Int32.toInt_sub, own_i (by omega)] at q
  have e0 : (0 : Int32).toInt = 0 := rfl
  have e1 : (16 : Int32).toInt = 16 := rfl
  rw [e0, e1, Int.bmod_eq_of_le (by omega) (by omega)] at q
  omega
theorem own_cnt {A vs : List Value} {n1 l1 : Int32} (hn : n1 = Int32.ofNat A.length) (hl : l1 = Int32.ofNat vs.length) : n1 + l1 = Int32.ofNat (A ++ vs).length := by
  subst hn hl
  rw [own_add, List.length_append]
theorem own_out {A vs : List Value} {n1 l1 : Int32} {Z : List Value} (hn : n1 = Int32.ofNat A.length) (hl : l1 = Int32.ofNat vs.length) (h : A.length + vs.length ≤ 16) :
    ((A ++ Z.drop A.length).take n1.toNatClampNeg ++ vs ++ (A ++ Z.drop A.length).drop (n1.toNatClampNeg + l1.toNatClampNeg)) = (A ++ vs) ++ Z.drop (A ++ vs).length := by
  subst hn hl
  rw [own_n (by omega), own_n (by omega), List.take_left', ← List.drop_drop, List.drop_left', List.drop_drop, List.length_append]
  all_goals rfl
theorem own_zlen (A : List Value) (h : A.length ≤ 16) : (A ++ own_Z16.drop A.length).length = 16 := by
  rw [List.length_append, List.length_drop, List.length_replicate]; omega
theorem own_h0 {cs : List Int32} (h : cs.length ≤ 3) : (([] : List Value)).length + (own_B cs).length ≤ 16 := by rw [own_bl]; show 0 + _ ≤ _; omega
theorem own_h1 {cs : List Int32} {vs : List Value} (h : cs.length ≤ 3) (hv : vs.length = 7 := by rfl) : ([] ++ own_B cs).length + vs.length ≤ 16 := by rw [hv, List.nil_append, own_bl]; omega
theorem own_h2 {cs ds : List Int32} {vs : List Value} (h : cs.length ≤ 3) (h' : ds.length ≤ 3) (hv : vs.length = 7 := by rfl) : ([] ++ own_B cs ++ vs).length + (own_B ds).length ≤ 16 := by rw [List.length_append, hv, List.nil_append, own_bl, own_bl]; omega
theorem own_h3 {cs ds : List Int32} {vs : List Value} (h : cs.length ≤ 3) (h' : ds.length ≤ 3) (hv : vs.length = 7 := by rfl) : ([] ++ own_B cs ++ vs ++ own_B ds).length ≤ 13 := by rw [List.length_append, List.length_append, hv, List.nil_append, own_bl, own_bl]; omega
theorem own_t1 {A : List Value} (h : A.length ≤ 13) : ¬ Int32.ofNat A.length < 0 := own_nn (by omega)
theorem own_t2 {A : List Value} (h : A.length ≤ 13) : Int32.ofNat A.length < (16 : Int32) := (own_ltn (b := 16) (by omega) (by omega)).mpr (by omega)
theorem own_t3 {A : List Value} (h : A.length ≤ 13) : (Int32.ofNat A.length).toNatClampNeg ≤ 13 := by rw [own_n (by omega)]; exact h
theorem own_final {Zs : State} {hh : Heap} {t : Addr} {kt : ClassId} {cs ds : List Int32} {R N : List Value} {d : Value} (hN : N = own_B own_N) (h : ([] ++ own_B cs ++ N ++ own_B ds).length ≤ 13)
    (V : Arv Zs hh t kt .byte (Int32.ofNat ([] ++ own_B cs ++ N ++ own_B ds).length) ((List.range (Int32.ofNat ([] ++ own_B cs ++ N ++ own_B ds).length).toNatClampNeg).map fun i => (([] ++ own_B cs ++ N ++ own_B ds) ++ R).getD (0 + i) d) d) :
    Arv Zs hh t kt .byte (Int32.ofNat (own_M cs ds).length) (own_B (own_M cs ds)) d := by
  subst hN
  have e : ([] ++ own_B cs ++ own_B own_N ++ own_B ds) = own_B (own_M cs ds) := by simp [own_M, own_B]
  rw [e] at V h
  have e2 : ((List.range (Int32.ofNat (own_B (own_M cs ds)).length).toNatClampNeg).map fun i => (own_B (own_M cs ds) ++ R).getD (0 + i) d) = own_B (own_M cs ds) := by
    rw [own_n (by omega)]
    generalize own_B (own_M cs ds) = A
    apply List.ext_getElem
    · simp
    · intro i h1 h2
      simp [List.getD_eq_getElem?_getD, List.getElem?_append_left h2, h2]
  rw [e2, own_bl] at V
  exact V
theorem own_lN : ∀ c ∈ own_N, ¬ c < 0 ∧ ¬ (255 : Int32) < c := by decide
theorem own_N3 : own_N.length ≤ 13 := by decide
theorem own_4000 {cs : List Int32} {n : Nat} (h : cs.length ≤ n) (hn : n ≤ 4000 := by decide) : cs.length ≤ 4000 := Nat.le_trans h hn
theorem own_lM {cs ds : List Int32} (h : ∀ c ∈ cs, ¬ c < 0 ∧ ¬ (255 : Int32) < c) (h' : ∀ c ∈ ds, ¬ c < 0 ∧ ¬ (255 : Int32) < c) : ∀ c ∈ own_M cs ds, ¬ c < 0 ∧ ¬ (255 : Int32) < c := fun c q => by
  rcases List.mem_append.mp q with q | q
  · rcases List.mem_append.mp q with q | q
    · exact h c q
    · exact own_lN c q
  · exact h' c q
theorem own_ml (cs ds : List Int32) : (own_M cs ds).length = cs.length + 7 + ds.length := by simp [own_M, own_N]; omega
theorem own_hM {cs ds : List Int32} (h : cs.length ≤ 3) (h' : ds.length ≤ 3) : (own_M cs ds).length ≤ 13 := by rw [own_ml]; omega
section
variable {cs ds : List Int32} {k : Nat} {j : Int32}
theorem own_lt1 (hj : j = Int32.ofNat k) (hk : k ≤ 12) (hcs : cs.length ≤ 3) (h : k < cs.length) : j < (Int32.ofNat cs.length) := by subst hj; exact (own_ltn (by omega) (by omega)).mpr h
theorem own_lt1n (hj : j = Int32.ofNat k) (hk : k ≤ 12) (hcs : cs.length ≤ 3) (h : ¬ k < cs.length) : ¬ j < (Int32.ofNat cs.length) := by subst hj; exact mt (own_ltn (by omega) (by omega)).mp h
theorem own_sub1 (hj : j = Int32.ofNat k) (hk : k ≤ 12) (hcs : cs.length ≤ 3) (h : ¬ k < cs.length) : (j - (Int32.ofNat cs.length)) = (Int32.ofNat (k - cs.length)) := by subst hj; exact own_subn (by omega)
theorem own_lt2 (hk : k ≤ 12) (h : k - cs.length < 7) : (Int32.ofNat (k - cs.length)) < (7 : Int32) := (own_ltn (b := 7) (by omega) (by omega)).mpr h
theorem own_lt2n (hk : k ≤ 12) (h : ¬ k - cs.length < 7) : ¬ (Int32.ofNat (k - cs.length)) < (7 : Int32) := mt (own_ltn (b := 7) (by omega) (by omega)).mp h
theorem own_sub2 (hk : k ≤ 12) (h : ¬ k - cs.length < 7) : ((Int32.ofNat (k - cs.length)) - (7 : Int32)) = (Int32.ofNat (k - cs.length - 7)) := own_subn (b := 7) (by omega)
theorem own_lt3 (hk : k ≤ 12) (hds : ds.length ≤ 3) (h : k - cs.length - 7 < ds.length) : (Int32.ofNat (k - cs.length - 7)) < (Int32.ofNat ds.length) := (own_ltn (by omega) (by omega)).mpr h
theorem own_lt3n (hk : k ≤ 12) (hds : ds.length ≤ 3) (h : ¬ k - cs.length - 7 < ds.length) : ¬ (Int32.ofNat (k - cs.length - 7)) < (Int32.ofNat ds.length) := mt (own_ltn (by omega) (by omega)).mp h
theorem own_e1 (h : k < cs.length) : (cs.getD k 0) = (own_exp cs ds k) := by rw [own_exp, if_pos h]
theorem own_e2 (h : ¬ k < cs.length) (h2 : k - cs.length < 7) : (own_N.getD (k - cs.length) 0) = (own_exp cs ds k) := by rw [own_exp, if_neg h, if_pos h2]
theorem own_e3 (h : ¬ k < cs.length) (h2 : ¬ k - cs.length < 7) (h3 : k - cs.length - 7 < ds.length) : (ds.getD (k - cs.length - 7) 0) = (own_exp cs ds k) := by rw [own_exp, if_neg h, if_neg h2, if_pos h3]
theorem own_e4 (h : ¬ k < cs.length) (h2 : ¬ k - cs.length < 7) (h3 : ¬ k - cs.length - 7 < ds.length) : (-1 : Int32) = (own_exp cs ds k) := by rw [own_exp, if_neg h, if_neg h2, if_neg h3]
theorem own_lt4 (hj : j = Int32.ofNat k) (hk : k ≤ 12) (hM : (own_M cs ds).length ≤ 13) (h : k < (own_M cs ds).length) : j < (Int32.ofNat (own_M cs ds).length) := by subst hj; exact (own_ltn (by omega) (by omega)).mpr h
theorem own_lt4n (hj : j = Int32.ofNat k) (hk : k ≤ 12) (hM : (own_M cs ds).length ≤ 13) (h : ¬ k < (own_M cs ds).length) : ¬ j < (Int32.ofNat (own_M cs ds).length) := by subst hj; exact mt (own_ltn (by omega) (by omega)).mp h
theorem own_eq1 (h : k < (own_M cs ds).length) : (own_exp cs ds k) = ((own_M cs ds).getD k 0) := by
  rw [own_ml] at h
  have hN : own_N.length = 7 := rfl
  unfold own_exp own_M
  simp only [List.getD_eq_getElem?_getD]
  by_cases h1 : k < cs.length
  · rw [if_pos h1, List.append_assoc, List.getElem?_append_left h1]
  · rw [if_neg h1, List.append_assoc, List.getElem?_append_right (by omega)]
    by_cases h2 : k - cs.length < 7
    · rw [if_pos h2, List.getElem?_append_left (by rw [hN]; exact h2)]
    · rw [if_neg h2, List.getElem?_append_right (by rw [hN]; omega), hN, if_pos (by omega)]
theorem own_eq2 (h : ¬ k < (own_M cs ds).length) : (own_exp cs ds k) = (-1 : Int32) := by
  rw [own_ml] at h
  exact (own_e4 (by omega) (by omega) (by omega)).symm
theorem own_tot (cs ds : List Int32) (h : cs.length ≤ 3) (h' : ds.length ≤ 3) : (Int32.ofNat (own_M cs ds).length) = (((Int32.ofNat cs.length) + (7 : Int32)) + (Int32.ofNat ds.length)) := by
  rw [own_ml]
  show _ = (Int32.ofNat cs.length + Int32.ofNat 7) + Int32.ofNat ds.length
  rw [own_add, own_add]
end

def QCo (Z : State) (h0 : Heap) (n0 : Nat) (v : Option Value) (h : Heap) (L : List Loc) : Prop := v = some (.int (0 : Int32)) ∧ Fr n0 L ∧ h = h0
def QLn (Z : State) (ln : Int32) (h0 : Heap) (n0 : Nat) (v : Option Value) (h : Heap) (L : List Loc) : Prop := v = some (.int (ln >>> ((0 : Int32) &&& 31))) ∧ Fr n0 L ∧ h = h0
def QPu (Z : State) (h0 : Heap) (n0 : Nat) (v : Option Value) (h : Heap) (L : List Loc) : Prop := v = none ∧ Fr n0 L ∧ h = h0
theorem ef_rmCo (m : MethodId) (x0 : Addr) : entryFrame m #[(.ref x0)] 1 = mkF m 0 #[.val (.ref x0)] [] := by first | (simp [entryFrame, mkF, argsToLocals, Value.category]; done) | rfl
theorem pn_java_lang_String : plainName "java/lang/String" = true := by first | (simp [plainName, overriddenIn]; done) | decide +kernel
theorem d13_0 : decode jdk_42_method_152_code 0 = .ok (.getstatic 38, 3) := by decide +kernel
theorem d13_3 : decode jdk_42_method_152_code 3 = .ok (.ifCond .eq 10, 3) := by decide +kernel
theorem d13_6 : decode jdk_42_method_152_code 6 = .ok (.aload_n 0, 1) := by decide +kernel
theorem d13_7 : decode jdk_42_method_152_code 7 = .ok (.getfield 15, 3) := by decide +kernel
theorem d13_10 : decode jdk_42_method_152_code 10 = .ok (.goto 4, 3) := by decide +kernel
theorem d13_14 : decode jdk_42_method_152_code 14 = .ok (.ireturn, 1) := by decide +kernel
set_option maxRecDepth 65536 in
set_option maxHeartbeats 40000000 in
theorem rmCo (l : Launch) (Z : State) (a0 : Array Value) (hw : ∀ d ∈ tables_1, d.before a0 Z = true) (ws : List Jvm.Cond) (b1 : Addr) (z0 : Int32) (h0 : Heap) (n0 : Nat) (Z0 : n0 ≤ h0.size) (F2 : Fld Z h0 b1 "java/lang/String" "coder" "B" (.int (0 : Int32))) (O0 : OldL Z n0 h0) (S0 : Sta Z Z.heap "java/lang/String" "COMPACT_STRINGS" "Z" (.int z0)) (hz : ¬ z0 = (0 : Int32)) :
    MetFree l (⟨"java/lang/String", "coder", "()B"⟩ : MethodName) (head1 (Jvm.Cond.code (⟨"java/lang/String", "coder", "()B"⟩ : MethodName) jdk_42_method_152_code 1 (some .byte) :: ws) ({ frames := 0, cells := 0, slots := 0, locals := 0 } : Room)) (fun a U => a = #[(.ref b1)] ∧ Z.Warmed39 U.vm ∧ U.heap = h0) (fun _ _ _ _ _ => True) (fun _ U o U' => ∃ v L, o = .returned v ∧ QCo Z  h0 n0 v U'.heap L ∧ FrameEnd U o U' L ({ frames := 0, cells := 0, slots := 0, locals := 0 } : Room).cells ({ frames := 0, cells := 0, slots := 0, locals := 0 } : Room).slots) := by
  refine MetFree.of_bodySF (plainFor_of_name pn_java_lang_String) hisR ?_
  intro p e s m args below meth c s₁ Bd hml0 hP hK
  obtain ⟨rfl, hZ, hh⟩ := hP
  have hx := Bd.exec
  have hby := Bd.bytes
  have hml : c.maxLocals = 1 := hml0
  have hown : s.vm.findClass "java/lang/String" = some m.cls := findClass_of_methodNamed Bd.named
  have hnm := (name_of_methodNamed Bd.named Bd.method).1
  have X0 : Stand p l e ({ frames := 0, cells := 0, slots := 0, locals := 0 } : Room) s m #[(.ref b1)] below meth c s₁ [] 0 0 := Stand.of_body Bd
  have e0 : s₁.heap = h0 := by rw [← hh, Bd.state]; rfl
  have N0 := Fr.nil n0
  have pre0 : ∀ t, Steps p.tables e below (s₁.setTop (mkF m 0 #[.val (.ref b1)] [])) t → Steps p.tables e below (s₁.setTop (entryFrame m #[(.ref b1)] 1)) t := fun t kt => castTop (ef_rmCo m b1) kt
  obtain ⟨T21, X21, e21, st21⟩ := getS2 X0 hx hZ hown (host := "") (Or.inl (hw _ (List.mem_of_getElem? (i := 88) rfl))) Via.refl e0 (S0.ext (O0).2) (g := (mkF m 0 #[.val (.ref b1)] [])) rfl (hb hby d13_0)
  have pre22 : ∀ t, Steps p.tables e below (T21.setTop (mkF m 3 #[.val (.ref b1)] [(.int z0)])) t → Steps p.tables e below (s₁.setTop (entryFrame m #[(.ref b1)] 1)) t := fun t kt => pre0 t (st21 _ kt)
  have pre23 : ∀ t, Steps p.tables e below (T21.setTop (mkF m 7 #[.val (.ref b1)] [(.ref b1)])) t → Steps p.tables e below (s₁.setTop (entryFrame m #[(.ref b1)] 1)) t := fun t kt => pre22 t (by
    refine XS.ifNo X21.here hx rfl (hb hby d13_3) rfl ((if0 _ _).trans (feq (hz : ¬ (z0 = (0 : Int32)))).1) ?_
    show Steps p.tables e below (T21.setTop (mkF m 6 #[.val (.ref b1)] [])) _
    refine XS.aloadN X21.here hx rfl (hb hby d13_6) rfl rfl ?_
    show Steps p.tables e below (T21.setTop (mkF m 7 #[.val (.ref b1)] [(.ref b1)])) _
    exact kt)
  obtain ⟨T24, X24, e24, st24⟩ := getF X21 hx hZ hown (host := "") (Or.inl (hw _ (List.mem_of_getElem? (i := 25) rfl))) Via.refl e21 F2 (g := (mkF m 7 #[.val (.ref b1)] [(.ref b1)])) rfl rfl (hb hby d13_7)
  have pre25 : ∀ t, Steps p.tables e below (T24.setTop (mkF m 10 #[.val (.ref b1)] [(.int (0 : Int32))])) t → Steps p.tables e below (s₁.setTop (entryFrame m #[(.ref b1)] 1)) t := fun t kt => pre23 t (st24 _ kt)
  have pre26 : ∀ t, Steps p.tables e below (T24.setTop (mkF m 14 #[.val (.ref b1)] [(.int (0 : Int32))])) t → Steps p.tables e below (s₁.setTop (entryFrame m #[(.ref b1)] 1)) t := fun t kt => pre25 t (by
    refine XS.goto X24.here hx rfl (pc0 := 10) (pc' := 14) rfl (hb hby d13_10) (by decide) (by decide) ?_
    show Steps p.tables e below (T24.setTop (mkF m 14 #[.val (.ref b1)] [(.int (0 : Int32))])) _
    exact kt)
  obtain ⟨fs, hr, hrun, hended, hW, hsame⟩ := X24.leave (v := (some (.int (0 : Int32)))) (fun h => by rw [Bd.returns] at h; cases h)
  refine ⟨_, _, pre26 _ ?_, hrun, hended, _, _, rfl, ?_, ⟨_, rfl⟩, hW, hsame.mono (by decide) (by decide)⟩
  · exact retN X24 hx (t := .byte) Bd.returns (by simp) (hb hby d13_14) hr
  · show QCo Z  h0 n0 _ T24.heap _
    rw [e24]
    exact ⟨rfl, N0, rfl⟩
theorem ef_rmLn (m : MethodId) (x0 : Addr) : entryFrame m #[(.ref x0)] 1 = mkF m 0 #[.val (.ref x0)] [] := by first | (simp [entryFrame, mkF, argsToLocals, Value.category]; done) | rfl
theorem d12_0 : decode jdk_42_method_54_code 0 = .ok (.aload_n 0, 1) := by decide +kernel
theorem d12_1 : decode jdk_42_method_54_code 1 = .ok (.getfield 9, 3) := by decide +kernel
theorem d12_4 : decode jdk_42_method_54_code 4 = .ok (.arraylength, 1) := by decide +kernel
theorem d12_5 : decode jdk_42_method_54_code 5 = .ok (.aload_n 0, 1) := by decide +kernel
theorem pd__28_29B : parseMethodDescriptor "()B" = some ⟨[], some .byte⟩ := by decide +kernel
theorem d12_6 : decode jdk_42_method_54_code 6 = .ok (.invokevirtual 335, 3) := by decide +kernel
theorem d12_9 : decode jdk_42_method_54_code 9 = .ok (.ishr, 1) := by decide +kernel
theorem d12_10 : decode jdk_42_method_54_code 10 = .ok (.ireturn, 1) := by decide +kernel
set_option maxRecDepth 65536 in
set_option maxHeartbeats 40000000 in
theorem rmLn (l : Launch) (Z : State) (a0 : Array Value) (hw : ∀ d ∈ tables_1, d.before a0 Z = true) (ws : List Jvm.Cond) (b1 c1 : Addr) (kc : ClassId) (ln z0 : Int32) (vs : List Value) (h0 : Heap) (n0 : Nat) (Z0 : n0 ≤ h0.size) (E2 : Exa Z h0 b1 "java/lang/String") (F1 : Fld Z h0 b1 "java/lang/String" "value" "[B" (.ref c1)) (F2 : Fld Z h0 b1 "java/lang/String" "coder" "B" (.int (0 : Int32))) (V1 : Arv Z h0 c1 kc .byte ln vs (.int (0 : Int32))) (O0 : OldL Z n0 h0) (S0 : Sta Z Z.heap "java/lang/String" "COMPACT_STRINGS" "Z" (.int z0)) (hz : ¬ z0 = (0 : Int32)) :
    MetFree l (⟨"java/lang/String", "length", "()I"⟩ : MethodName) (head1 (Jvm.Cond.code (⟨"java/lang/String", "length", "()I"⟩ : MethodName) jdk_42_method_54_code 1 (some .int) :: ws) ({ frames := 1, cells := 0, slots := 0, locals := 13 } : Room)) (fun a U => a = #[(.ref b1)] ∧ Z.Warmed39 U.vm ∧ U.heap = h0) (fun _ _ _ _ _ => True) (fun _ U o U' => ∃ v L, o = .returned v ∧ QLn Z ln h0 n0 v U'.heap L ∧ FrameEnd U o U' L ({ frames := 1, cells := 0, slots := 0, locals := 13 } : Room).cells ({ frames := 1, cells := 0, slots := 0, locals := 13 } : Room).slots) := by
  refine MetFree.of_bodySF (plainFor_of_name pn_java_lang_String) hisR ?_
  intro p e s m args below meth c s₁ Bd hml0 hP hK
  obtain ⟨rfl, hZ, hh⟩ := hP
  have hx := Bd.exec
  have hby := Bd.bytes
  have hml : c.maxLocals = 1 := hml0
  have hown : s.vm.findClass "java/lang/String" = some m.cls := findClass_of_methodNamed Bd.named
  have hnm := (name_of_methodNamed Bd.named Bd.method).1
  have X0 : Stand p l e ({ frames := 1, cells := 0, slots := 0, locals := 13 } : Room) s m #[(.ref b1)] below meth c s₁ [] 0 0 := Stand.of_body Bd
  have e0 : s₁.heap = h0 := by rw [← hh, Bd.state]; rfl
  have N0 := Fr.nil n0
  have pre0 : ∀ t, Steps p.tables e below (s₁.setTop (mkF m 0 #[.val (.ref b1)] [])) t → Steps p.tables e below (s₁.setTop (entryFrame m #[(.ref b1)] 1)) t := fun t kt => castTop (ef_rmLn m b1) kt
  have pre21 : ∀ t, Steps p.tables e below (s₁.setTop (mkF m 1 #[.val (.ref b1)] [(.ref b1)])) t → Steps p.tables e below (s₁.setTop (entryFrame m #[(.ref b1)] 1)) t := fun t kt => pre0 t (by
    refine XS.aloadN X0.here hx rfl (hb hby d12_0) rfl rfl ?_
    show Steps p.tables e below (s₁.setTop (mkF m 1 #[.val (.ref b1)] [(.ref b1)])) _
    exact kt)
  obtain ⟨T22, X22, e22, st22⟩ := getF X0 hx hZ hown (host := "") (Or.inl (hw _ (List.mem_of_getElem? (i := 24) rfl))) Via.refl e0 F1 (g := (mkF m 1 #[.val (.ref b1)] [(.ref b1)])) rfl rfl (hb hby d12_1)
  have pre23 : ∀ t, Steps p.tables e below (T22.setTop (mkF m 4 #[.val (.ref b1)] [(.ref c1)])) t → Steps p.tables e below (s₁.setTop (entryFrame m #[(.ref b1)] 1)) t := fun t kt => pre21 t (st22 _ kt)
  obtain ⟨cl24, Ar24, -, S24, M24, -⟩ := id (V1)
  have pre25 : ∀ t, Steps p.tables e below (T22.setTop (mkF m 6 #[.val (.ref b1)] [(.ref b1), (.int ln)])) t → Steps p.tables e below (s₁.setTop (entryFrame m #[(.ref b1)] 1)) t := fun t kt => pre23 t (by
    refine X22.arraylength hx (by rw [e22]; exact Ar24.1) (State.isArrayOf_alike hZ.alike Ar24.2.1) (g := (mkF m 4 #[.val (.ref b1)] [(.ref c1)])) rfl rfl (hb hby d12_4) _ ?_
    rw [len_of S24 M24]
    show Steps p.tables e below (T22.setTop (mkF m 5 #[.val (.ref b1)] [(.int ln)])) _
    refine XS.aloadN X22.here hx rfl (hb hby d12_5) rfl rfl ?_
    show Steps p.tables e below (T22.setTop (mkF m 6 #[.val (.ref b1)] [(.ref b1), (.int ln)])) _
    exact kt)
  obtain ⟨cq26, kq26, q26a, q26b, q26c⟩ := isOf hZ e22 (E2)
  obtain ⟨_, _, ⟨T26, L26, k26, n26⟩, -, X26, ⟨Lc26, hQ26, l26, y26, z26⟩, st26⟩ := X22.virtualBack hx (y := (⟨"java/lang/String", "coder", "()B"⟩ : MethodName)) (z := (⟨"java/lang/String", "coder", "()B"⟩ : MethodName)) hown (mvT hZ (hw _ (List.mem_of_getElem? (i := 83) rfl))) (mvT hZ (hw _ (List.mem_of_getElem? (i := 84) rfl))) (notFace_of_selects (args := #[]) (mvT hZ (hw _ (List.mem_of_getElem? (i := 86) rfl)))) (mvT hZ (hw _ (List.mem_of_getElem? (i := 86) rfl))) (mvT hZ (hw _ (List.mem_of_getElem? (i := 85) rfl))) (by decide) (backOf (W := 1) (rmCo l Z a0 hw [] b1 z0 h0 n0 Z0 F2 O0 S0 hz) hZ (hw _ (List.mem_of_getElem? (i := 87) rfl)) (hw _ (List.mem_of_getElem? (i := 6) rfl)) (by decide) (by decide)) q26a q26c (g := (mkF m 6 #[.val (.ref b1)] [(.ref b1), (.int ln)])) rfl (by rw [hml]; rfl) (Steps.refl _) (argsL := []) (rest := [(.int ln)]) (lenOf pd__28_29B rfl) rfl (by show 2 * 0 + _ ≤ _; exact Nat.le_of_eq rfl) (hb hby d12_6) (fun _ _ => ⟨rfl, e22, (by decide : 0 + 0 ≤ _), (by decide : 0 + 0 ≤ _)⟩)
  dsimp only [Pt.U, Pt.locs, Pt.cells, Pt.slots] at X26 l26 y26 z26 st26 hQ26
  subst l26 y26 z26
  obtain ⟨rfl, N26q, e26q⟩ := hQ26
  have N26 := Fr.app N0 N26q
  have pre27 : ∀ t, Steps p.tables e below (T26.setTop (mkF m 9 #[.val (.ref b1)] [(.int (0 : Int32)), (.int ln)])) t → Steps p.tables e below (s₁.setTop (entryFrame m #[(.ref b1)] 1)) t := fun t kt => pre25 t (st26.trans kt)
  have pre28 : ∀ t, Steps p.tables e below (T26.setTop (mkF m 10 #[.val (.ref b1)] [(.int (ln >>> ((0 : Int32) &&& 31)))])) t → Steps p.tables e below (s₁.setTop (entryFrame m #[(.ref b1)] 1)) t := fun t kt => pre27 t (by
    refine XS.ishr X26.here hx rfl (hb hby d12_9) rfl ?_
    show Steps p.tables e below (T26.setTop (mkF m 10 #[.val (.ref b1)] [(.int (ln >>> ((0 : Int32) &&& 31)))])) _
    exact kt)
  obtain ⟨fs, hr, hrun, hended, hW, hsame⟩ := X26.leave (v := (some (.int (ln >>> ((0 : Int32) &&& 31))))) (fun h => by rw [Bd.returns] at h; cases h)
  refine ⟨_, _, pre28 _ ?_, hrun, hended, _, _, rfl, ?_, ⟨_, rfl⟩, hW, hsame.mono (by decide) (by decide)⟩
  · exact retI X26 hx Bd.returns (hb hby d12_10) hr
  · show QLn Z ln h0 n0 _ T26.heap _
    rw [e26q]
    exact ⟨rfl, N26, rfl⟩
theorem ef_rmIn (m : MethodId) (x0 : Addr) (x1 : Addr) : entryFrame m #[(.ref x0), (.ref x1)] 2 = mkF m 0 #[.val (.ref x0), .val (.ref x1)] [] := by first | (simp [entryFrame, mkF, argsToLocals, Value.category]; done) | rfl
theorem pn_java_lang_AbstractStringBuilder : plainName "java/lang/AbstractStringBuilder" = true := by first | (simp [plainName, overriddenIn]; done) | decide +kernel
theorem d16_0 : decode jdk_68_method_71_code 0 = .ok (.getstatic 18, 3) := by decide +kernel
theorem d16_3 : decode jdk_68_method_71_code 3 = .ok (.ifCond .eq 18, 3) := by decide +kernel
theorem d16_6 : decode jdk_68_method_71_code 6 = .ok (.aload_n 0, 1) := by decide +kernel
theorem d16_7 : decode jdk_68_method_71_code 7 = .ok (.getfield 22, 3) := by decide +kernel
theorem d16_10 : decode jdk_68_method_71_code 10 = .ok (.aload_n 1, 1) := by decide +kernel
theorem d16_11 : decode jdk_68_method_71_code 11 = .ok (.invokevirtual 40, 3) := by decide +kernel
theorem d16_14 : decode jdk_68_method_71_code 14 = .ok (.if_icmp .eq 7, 3) := by decide +kernel
theorem d16_21 : decode jdk_68_method_71_code 21 = .ok (.return_, 1) := by decide +kernel
set_option maxRecDepth 65536 in
set_option maxHeartbeats 40000000 in
theorem rmIn (l : Launch) (Z : State) (a0 : Array Value) (hw : ∀ d ∈ tables_1, d.before a0 Z = true) (ws : List Jvm.Cond) (a1 b1 : Addr) (z0 : Int32) (h0 : Heap) (n0 : Nat) (Z0 : n0 ≤ h0.size) (F1 : Fld Z h0 a1 "java/lang/AbstractStringBuilder" "coder" "B" (.int (0 : Int32))) (E2 : Exa Z h0 b1 "java/lang/String") (F2 : Fld Z h0 b1 "java/lang/String" "coder" "B" (.int (0 : Int32))) (O0 : OldL Z n0 h0) (S0 : Sta Z Z.heap "java/lang/String" "COMPACT_STRINGS" "Z" (.int z0)) (hz : ¬ z0 = (0 : Int32)) :
    MetFree l (⟨"java/lang/AbstractStringBuilder", "inflateIfNeededFor", "(Ljava/lang/String;)V"⟩ : MethodName) (head1 (Jvm.Cond.code (⟨"java/lang/AbstractStringBuilder", "inflateIfNeededFor", "(Ljava/lang/String;)V"⟩ : MethodName) jdk_68_method_71_code 2 none :: ws) ({ frames := 1, cells := 0, slots := 0, locals := 13 } : Room)) (fun a U => a = #[(.ref a1), (.ref b1)] ∧ Z.Warmed39 U.vm ∧ U.heap = h0) (fun _ _ _ _ _ => True) (fun _ U o U' => ∃ v L, o = .returned v ∧ QPu Z  h0 n0 v U'.heap L ∧ FrameEnd U o U' L ({ frames := 1, cells := 0, slots := 0, locals := 13 } : Room).cells ({ frames := 1, cells := 0, slots := 0, locals := 13 } : Room).slots) := by
  refine MetFree.of_bodySF (plainFor_of_name pn_java_lang_AbstractStringBuilder) hisR ?_
  intro p e s m args below meth c s₁ Bd hml0 hP hK
  obtain ⟨rfl, hZ, hh⟩ := hP
  have hx := Bd.exec
  have hby := Bd.bytes
  have hml : c.maxLocals = 2 := hml0
  have hown : s.vm.findClass "java/lang/AbstractStringBuilder" = some m.cls := findClass_of_methodNamed Bd.named
  have hnm := (name_of_methodNamed Bd.named Bd.method).1
  have X0 : Stand p l e ({ frames := 1, cells := 0, slots := 0, locals := 13 } : Room) s m #[(.ref a1), (.ref b1)] below meth c s₁ [] 0 0 := Stand.of_body Bd
  have e0 : s₁.heap = h0 := by rw [← hh, Bd.state]; rfl
  have N0 := Fr.nil n0
  have pre0 : ∀ t, Steps p.tables e below (s₁.setTop (mkF m 0 #[.val (.ref a1), .val (.ref b1)] [])) t → Steps p.tables e below (s₁.setTop (entryFrame m #[(.ref a1), (.ref b1)] 2)) t := fun t kt => castTop (ef_rmIn m a1 b1) kt
  obtain ⟨T21, X21, e21, st21⟩ := getS2 X0 hx hZ hown (host := "") (Or.inl (hw _ (List.mem_of_getElem? (i := 63) rfl))) Via.refl e0 (S0.ext (O0).2) (g := (mkF m 0 #[.val (.ref a1), .val (.ref b1)] [])) rfl (hb hby d16_0)
  have pre22 : ∀ t, Steps p.tables e below (T21.setTop (mkF m 3 #[.val (.ref a1), .val (.ref b1)] [(.int z0)])) t → Steps p.tables e below (s₁.setTop (entryFrame m #[(.ref a1), (.ref b1)] 2)) t := fun t kt => pre0 t (st21 _ kt)
  have pre23 : ∀ t, Steps p.tables e below (T21.setTop (mkF m 7 #[.val (.ref a1), .val (.ref b1)] [(.ref a1)])) t → Steps p.tables e below (s₁.setTop (entryFrame m #[(.ref a1), (.ref b1)] 2)) t := fun t kt => pre22 t (by
    refine XS.ifNo X21.here hx rfl (hb hby d16_3) rfl ((if0 _ _).trans (feq (hz : ¬ (z0 = (0 : Int32)))).1) ?_
    show Steps p.tables e below (T21.setTop (mkF m 6 #[.val (.ref a1), .val (.ref b1)] [])) _
    refine XS.aloadN X21.here hx rfl (hb hby d16_6) rfl rfl ?_
    show Steps p.tables e below (T21.setTop (mkF m 7 #[.val (.ref a1), .val (.ref b1)] [(.ref a1)])) _
    exact kt)
  obtain ⟨T24, X24, e24, st24⟩ := getF X21 hx hZ hown (host := "") (Or.inl (hw _ (List.mem_of_getElem? (i := 66) rfl))) Via.refl e21 F1 (g := (mkF m 7 #[.val (.ref a1), .val (.ref b1)] [(.ref a1)])) rfl rfl (hb hby d16_7)
  have pre25 : ∀ t, Steps p.tables e below (T24.setTop (mkF m 10 #[.val (.ref a1), .val (.ref b1)] [(.int (0 : Int32))])) t → Steps p.tables e below (s₁.setTop (entryFrame m #[(.ref a1), (.ref b1)] 2)) t := fun t kt => pre23 t (st24 _ kt)
  have pre26 : ∀ t, Steps p.tables e below (T24.setTop (mkF m 11 #[.val (.ref a1), .val (.ref b1)] [(.ref b1), (.int (0 : Int32))])) t → Steps p.tables e below (s₁.setTop (entryFrame m #[(.ref a1), (.ref b1)] 2)) t := fun t kt => pre25 t (by
    refine XS.aloadN X24.here hx rfl (hb hby d16_10) rfl rfl ?_
    show Steps p.tables e below (T24.setTop (mkF m 11 #[.val (.ref a1), .val (.ref b1)] [(.ref b1), (.int (0 : Int32))])) _
    exact kt)
  obtain ⟨cq27, kq27, q27a, q27b, q27c⟩ := isOf hZ e24 (E2)
  obtain ⟨_, _, ⟨T27, L27, k27, n27⟩, -, X27, ⟨Lc27, hQ27, l27, y27, z27⟩, st27⟩ := X24.virtualBack hx (y := (⟨"java/lang/String", "coder", "()B"⟩ : MethodName)) (z := (⟨"java/lang/String", "coder", "()B"⟩ : MethodName)) hown (mvT hZ (hw _ (List.mem_of_getElem? (i := 106) rfl))) (mvT hZ (hw _ (List.mem_of_getElem? (i := 84) rfl))) (notFace_of_selects (args := #[]) (mvT hZ (hw _ (List.mem_of_getElem? (i := 86) rfl)))) (mvT hZ (hw _ (List.mem_of_getElem? (i := 86) rfl))) (mvT hZ (hw _ (List.mem_of_getElem? (i := 85) rfl))) (by decide) (backOf (W := 1) (rmCo l Z a0 hw [] b1 z0 h0 n0 Z0 F2 O0 S0 hz) hZ (hw _ (List.mem_of_getElem? (i := 87) rfl)) (hw _ (List.mem_of_getElem? (i := 6) rfl)) (by decide) (by decide)) q27a q27c (g := (mkF m 11 #[.val (.ref a1), .val (.ref b1)] [(.ref b1), (.int (0 : Int32))])) rfl (by rw [hml]; rfl) (Steps.refl _) (argsL := []) (rest := [(.int (0 : Int32))]) (lenOf pd__28_29B rfl) rfl (by show 2 * 0 + _ ≤ _; exact Nat.le_of_eq rfl) (hb hby d16_11) (fun _ _ => ⟨rfl, e24, (by decide : 0 + 0 ≤ _), (by decide : 0 + 0 ≤ _)⟩)
  dsimp only [Pt.U, Pt.locs, Pt.cells, Pt.slots] at X27 l27 y27 z27 st27 hQ27
  subst l27 y27 z27
  obtain ⟨rfl, N27q, e27q⟩ := hQ27
  have N27 := Fr.app N0 N27q
  have pre28 : ∀ t, Steps p.tables e below (T27.setTop (mkF m 14 #[.val (.ref a1), .val (.ref b1)] [(.int (0 : Int32)), (.int (0 : Int32))])) t → Steps p.tables e below (s₁.setTop (entryFrame m #[(.ref a1), (.ref b1)] 2)) t := fun t kt => pre26 t (st27.trans kt)
  have pre29 : ∀ t, Steps p.tables e below (T27.setTop (mkF m 21 #[.val (.ref a1), .val (.ref b1)] [])) t → Steps p.tables e below (s₁.setTop (entryFrame m #[(.ref a1), (.ref b1)] 2)) t := fun t kt => pre28 t (by
    refine XS.icmpYes X27.here hx rfl (pc0 := 14) (pc' := 21) rfl (hb hby d16_14) rfl (teq (by decide : (0 : Int32) = (0 : Int32))).1 (by decide) (by decide) ?_
    show Steps p.tables e below (T27.setTop (mkF m 21 #[.val (.ref a1), .val (.ref b1)] [])) _
    exact kt)
  obtain ⟨fs, hr, hrun, hended, hW, hsame⟩ := X27.leave (v := none) (fun _ => rfl)
  refine ⟨_, _, pre29 _ ?_, hrun, hended, _, _, rfl, ?_, ⟨_, rfl⟩, hW, hsame.mono (by decide) (by decide)⟩
  · exact X27.returnOut hx Bd.returns (hb hby d16_21) hr
  · show QPu Z  h0 n0 _ T27.heap _
    rw [e27q]
    exact ⟨rfl, N27, rfl⟩
def QLs (Z : State) (ln : Int32) (h0 : Heap) (n0 : Nat) (v : Option Value) (h : Heap) (L : List Loc) : Prop := v = some (.int ln) ∧ Fr n0 L ∧ h = h0
theorem ef_rmLs (m : MethodId) (x0 : Addr) : entryFrame m #[(.ref x0)] 1 = mkF m 0 #[.val (.ref x0)] [] := by first | (simp [entryFrame, mkF, argsToLocals, Value.category]; done) | rfl
set_option maxRecDepth 65536 in
set_option maxHeartbeats 40000000 in
theorem rmLs (l : Launch) (Z : State) (a0 : Array Value) (hw : ∀ d ∈ tables_1, d.before a0 Z = true) (ws : List Jvm.Cond) (b1 c1 : Addr) (kc : ClassId) (ln z0 : Int32) (vs : List Value) (h0 : Heap) (n0 : Nat) (Z0 : n0 ≤ h0.size) (E2 : Exa Z h0 b1 "java/lang/String") (F1 : Fld Z h0 b1 "java/lang/String" "value" "[B" (.ref c1)) (F2 : Fld Z h0 b1 "java/lang/String" "coder" "B" (.int (0 : Int32))) (V1 : Arv Z h0 c1 kc .byte ln vs (.int (0 : Int32))) (O0 : OldL Z n0 h0) (S0 : Sta Z Z.heap "java/lang/String" "COMPACT_STRINGS" "Z" (.int z0)) (hz : ¬ z0 = (0 : Int32)) :
    MetFree l (⟨"java/lang/String", "length", "()I"⟩ : MethodName) (head1 (Jvm.Cond.code (⟨"java/lang/String", "length", "()I"⟩ : MethodName) jdk_42_method_54_code 1 (some .int) :: ws) ({ frames := 1, cells := 0, slots := 0, locals := 13 } : Room)) (fun a U => a = #[(.ref b1)] ∧ Z.Warmed39 U.vm ∧ U.heap = h0) (fun _ _ _ _ _ => True) (fun _ U o U' => ∃ v L, o = .returned v ∧ QLs Z ln h0 n0 v U'.heap L ∧ FrameEnd U o U' L ({ frames := 1, cells := 0, slots := 0, locals := 13 } : Room).cells ({ frames := 1, cells := 0, slots := 0, locals := 13 } : Room).slots) := by
  refine MetFree.of_bodySF (plainFor_of_name pn_java_lang_String) hisR ?_
  intro p e s m args below meth c s₁ Bd hml0 hP hK
  obtain ⟨rfl, hZ, hh⟩ := hP
  have hx := Bd.exec
  have hby := Bd.bytes
  have hml : c.maxLocals = 1 := hml0
  have hown : s.vm.findClass "java/lang/String" = some m.cls := findClass_of_methodNamed Bd.named
  have hnm := (name_of_methodNamed Bd.named Bd.method).1
  have X0 : Stand p l e ({ frames := 1, cells := 0, slots := 0, locals := 13 } : Room) s m #[(.ref b1)] below meth c s₁ [] 0 0 := Stand.of_body Bd
  have e0 : s₁.heap = h0 := by rw [← hh, Bd.state]; rfl
  have N0 := Fr.nil n0
  have pre0 : ∀ t, Steps p.tables e below (s₁.setTop (mkF m 0 #[.val (.ref b1)] [])) t → Steps p.tables e below (s₁.setTop (entryFrame m #[(.ref b1)] 1)) t := fun t kt => castTop (ef_rmLs m b1) kt
  have pre21 : ∀ t, Steps p.tables e below (s₁.setTop (mkF m 1 #[.val (.ref b1)] [(.ref b1)])) t → Steps p.tables e below (s₁.setTop (entryFrame m #[(.ref b1)] 1)) t := fun t kt => pre0 t (by
    refine XS.aloadN X0.here hx rfl (hb hby d12_0) rfl rfl ?_
    show Steps p.tables e below (s₁.setTop (mkF m 1 #[.val (.ref b1)] [(.ref b1)])) _
    exact kt)
  obtain ⟨T22, X22, e22, st22⟩ := getF X0 hx hZ hown (host := "") (Or.inl (hw _ (List.mem_of_getElem? (i := 24) rfl))) Via.refl e0 F1 (g := (mkF m 1 #[.val (.ref b1)] [(.ref b1)])) rfl rfl (hb hby d12_1)
  have pre23 : ∀ t, Steps p.tables e below (T22.setTop (mkF m 4 #[.val (.ref b1)] [(.ref c1)])) t → Steps p.tables e below (s₁.setTop (entryFrame m #[(.ref b1)] 1)) t := fun t kt => pre21 t (st22 _ kt)
  obtain ⟨cl24, Ar24, -, S24, M24, -⟩ := id (V1)
  have pre25 : ∀ t, Steps p.tables e below (T22.setTop (mkF m 6 #[.val (.ref b1)] [(.ref b1), (.int ln)])) t → Steps p.tables e below (s₁.setTop (entryFrame m #[(.ref b1)] 1)) t := fun t kt => pre23 t (by
    refine X22.arraylength hx (by rw [e22]; exact Ar24.1) (State.isArrayOf_alike hZ.alike Ar24.2.1) (g := (mkF m 4 #[.val (.ref b1)] [(.ref c1)])) rfl rfl (hb hby d12_4) _ ?_
    rw [len_of S24 M24]
    show Steps p.tables e below (T22.setTop (mkF m 5 #[.val (.ref b1)] [(.int ln)])) _
    refine XS.aloadN X22.here hx rfl (hb hby d12_5) rfl rfl ?_
    show Steps p.tables e below (T22.setTop (mkF m 6 #[.val (.ref b1)] [(.ref b1), (.int ln)])) _
    exact kt)
  obtain ⟨cq26, kq26, q26a, q26b, q26c⟩ := isOf hZ e22 (E2)
  obtain ⟨_, _, ⟨T26, L26, k26, n26⟩, -, X26, ⟨Lc26, hQ26, l26, y26, z26⟩, st26⟩ := X22.virtualBack hx (y := (⟨"java/lang/String", "coder", "()B"⟩ : MethodName)) (z := (⟨"java/lang/String", "coder", "()B"⟩ : MethodName)) hown (mvT hZ (hw _ (List.mem_of_getElem? (i := 83) rfl))) (mvT hZ (hw _ (List.mem_of_getElem? (i := 84) rfl))) (notFace_of_selects (args := #[]) (mvT hZ (hw _ (List.mem_of_getElem? (i := 86) rfl)))) (mvT hZ (hw _ (List.mem_of_getElem? (i := 86) rfl))) (mvT hZ (hw _ (List.mem_of_getElem? (i := 85) rfl))) (by decide) (backOf (W := 1) (rmCo l Z a0 hw [] b1 z0 h0 n0 Z0 F2 O0 S0 hz) hZ (hw _ (List.mem_of_getElem? (i := 87) rfl)) (hw _ (List.mem_of_getElem? (i := 6) rfl)) (by decide) (by decide)) q26a q26c (g := (mkF m 6 #[.val (.ref b1)] [(.ref b1), (.int ln)])) rfl (by rw [hml]; rfl) (Steps.refl _) (argsL := []) (rest := [(.int ln)]) (lenOf pd__28_29B rfl) rfl (by show 2 * 0 + _ ≤ _; exact Nat.le_of_eq rfl) (hb hby d12_6) (fun _ _ => ⟨rfl, e22, (by decide : 0 + 0 ≤ _), (by decide : 0 + 0 ≤ _)⟩)
  dsimp only [Pt.U, Pt.locs, Pt.cells, Pt.slots] at X26 l26 y26 z26 st26 hQ26
  subst l26 y26 z26
  obtain ⟨rfl, N26q, e26q⟩ := hQ26
  have N26 := Fr.app N0 N26q
  have pre27 : ∀ t, Steps p.tables e below (T26.setTop (mkF m 9 #[.val (.ref b1)] [(.int (0 : Int32)), (.int ln)])) t → Steps p.tables e below (s₁.setTop (entryFrame m #[(.ref b1)] 1)) t := fun t kt => pre25 t (st26.trans kt)
  have pre28 : ∀ t, Steps p.tables e below (T26.setTop (mkF m 10 #[.val (.ref b1)] [(.int (ln >>> ((0 : Int32) &&& 31)))])) t → Steps p.tables e below (s₁.setTop (entryFrame m #[(.ref b1)] 1)) t := fun t kt => pre27 t (by
    refine XS.ishr X26.here hx rfl (hb hby d12_9) rfl ?_
    show Steps p.tables e below (T26.setTop (mkF m 10 #[.val (.ref b1)] [(.int (ln >>> ((0 : Int32) &&& 31)))])) _
    exact kt)
  have hv29 : (ln >>> ((0 : Int32) &&& 31)) = ln := own_shr0 ln
  have pre29 : ∀ t, Steps p.tables e below (T26.setTop (mkF m 10 #[.val (.ref b1)] [(.int ln)])) t → Steps p.tables e below (s₁.setTop (entryFrame m #[(.ref b1)] 1)) t := fun t kt => pre28 t (by rw [hv29]; exact kt)
  obtain ⟨fs, hr, hrun, hended, hW, hsame⟩ := X26.leave (v := (some (.int ln))) (fun h => by rw [Bd.returns] at h; cases h)
  refine ⟨_, _, pre29 _ ?_, hrun, hended, _, _, rfl, ?_, ⟨_, rfl⟩, hW, hsame.mono (by decide) (by decide)⟩
  · exact retI X26 hx Bd.returns (hb hby d12_10) hr
  · show QLs Z ln h0 n0 _ T26.heap _
    rw [e26q]
    exact ⟨rfl, N26, rfl⟩
theorem ef_rmEs (m : MethodId) (x0 : Addr) (x1 : Int32) : entryFrame m #[(.ref x0), (.int x1)] 3 = mkF m 0 #[.val (.ref x0), .val (.int x1), .unset] [] := by first | (simp [entryFrame, mkF, argsToLocals, Value.category]; done) | rfl
theorem d14_0 : decode jdk_68_method_9_code 0 = .ok (.aload_n 0, 1) := by decide +kernel
theorem d14_1 : decode jdk_68_method_9_code 1 = .ok (.getfield 15, 3) := by decide +kernel
theorem d14_4 : decode jdk_68_method_9_code 4 = .ok (.arraylength, 1) := by decide +kernel
theorem d14_5 : decode jdk_68_method_9_code 5 = .ok (.aload_n 0, 1) := by decide +kernel
theorem d14_6 : decode jdk_68_method_9_code 6 = .ok (.getfield 22, 3) := by decide +kernel
theorem d14_9 : decode jdk_68_method_9_code 9 = .ok (.ishr, 1) := by decide +kernel
theorem d14_10 : decode jdk_68_method_9_code 10 = .ok (.istore_n 2, 1) := by decide +kernel
theorem d14_11 : decode jdk_68_method_9_code 11 = .ok (.iload_n 1, 1) := by decide +kernel
theorem d14_12 : decode jdk_68_method_9_code 12 = .ok (.iload_n 2, 1) := by decide +kernel
theorem d14_13 : decode jdk_68_method_9_code 13 = .ok (.isub, 1) := by decide +kernel
theorem d14_14 : decode jdk_68_method_9_code 14 = .ok (.ifCond .le 24, 3) := by decide +kernel
theorem d14_38 : decode jdk_68_method_9_code 38 = .ok (.return_, 1) := by decide +kernel
set_option maxRecDepth 65536 in
set_option maxHeartbeats 40000000 in
theorem rmEs (l : Launch) (Z : State) (a0 : Array Value) (hw : ∀ d ∈ tables_1, d.before a0 Z = true) (ws : List Jvm.Cond) (a1 d1 : Addr) (kd : ClassId) (vd : List Value) (m1 : Int32) (h0 : Heap) (n0 : Nat) (Z0 : n0 ≤ h0.size) (F1 : Fld Z h0 a1 "java/lang/AbstractStringBuilder" "value" "[B" (.ref d1)) (F2 : Fld Z h0 a1 "java/lang/AbstractStringBuilder" "coder" "B" (.int (0 : Int32))) (V1 : Arv Z h0 d1 kd .byte (16 : Int32) vd (.int (0 : Int32))) (hbd : ¬ (0 : Int32) < (m1 - (16 : Int32))) :
    MetFree l (⟨"java/lang/AbstractStringBuilder", "ensureCapacityInternal", "(I)V"⟩ : MethodName) (head1 (Jvm.Cond.code (⟨"java/lang/AbstractStringBuilder", "ensureCapacityInternal", "(I)V"⟩ : MethodName) jdk_68_method_9_code 3 none :: ws) ({ frames := 0, cells := 0, slots := 0, locals := 0 } : Room)) (fun a U => a = #[(.ref a1), (.int m1)] ∧ Z.Warmed39 U.vm ∧ U.heap = h0) (fun _ _ _ _ _ => True) (fun _ U o U' => ∃ v L, o = .returned v ∧ QPu Z  h0 n0 v U'.heap L ∧ FrameEnd U o U' L ({ frames := 0, cells := 0, slots := 0, locals := 0 } : Room).cells ({ frames := 0, cells := 0, slots := 0, locals := 0 } : Room).slots) := by
  refine MetFree.of_bodySF (plainFor_of_name pn_java_lang_AbstractStringBuilder) hisR ?_
  intro p e s m args below meth c s₁ Bd hml0 hP hK
  obtain ⟨rfl, hZ, hh⟩ := hP
  have hx := Bd.exec
  have hby := Bd.bytes
  have hml : c.maxLocals = 3 := hml0
  have hown : s.vm.findClass "java/lang/AbstractStringBuilder" = some m.cls := findClass_of_methodNamed Bd.named
  have hnm := (name_of_methodNamed Bd.named Bd.method).1
  have X0 : Stand p l e ({ frames := 0, cells := 0, slots := 0, locals := 0 } : Room) s m #[(.ref a1), (.int m1)] below meth c s₁ [] 0 0 := Stand.of_body Bd
  have e0 : s₁.heap = h0 := by rw [← hh, Bd.state]; rfl
  have N0 := Fr.nil n0
  have pre0 : ∀ t, Steps p.tables e below (s₁.setTop (mkF m 0 #[.val (.ref a1), .val (.int m1), .unset] [])) t → Steps p.tables e below (s₁.setTop (entryFrame m #[(.ref a1), (.int m1)] 3)) t := fun t kt => castTop (ef_rmEs m a1 m1) kt
  have pre21 : ∀ t, Steps p.tables e below (s₁.setTop (mkF m 1 #[.val (.ref a1), .val (.int m1), .unset] [(.ref a1)])) t → Steps p.tables e below (s₁.setTop (entryFrame m #[(.ref a1), (.int m1)] 3)) t := fun t kt => pre0 t (by
    refine XS.aloadN X0.here hx rfl (hb hby d14_0) rfl rfl ?_
    show Steps p.tables e below (s₁.setTop (mkF m 1 #[.val (.ref a1), .val (.int m1), .unset] [(.ref a1)])) _
    exact kt)
  obtain ⟨T22, X22, e22, st22⟩ := getF X0 hx hZ hown (host := "") (Or.inl (hw _ (List.mem_of_getElem? (i := 64) rfl))) Via.refl e0 F1 (g := (mkF m 1 #[.val (.ref a1), .val (.int m1), .unset] [(.ref a1)])) rfl rfl (hb hby d14_1)
  have pre23 : ∀ t, Steps p.tables e below (T22.setTop (mkF m 4 #[.val (.ref a1), .val (.int m1), .unset] [(.ref d1)])) t → Steps p.tables e below (s₁.setTop (entryFrame m #[(.ref a1), (.int m1)] 3)) t := fun t kt => pre21 t (st22 _ kt)
  obtain ⟨cl24, Ar24, -, S24, M24, -⟩ := id (V1)
  have pre25 : ∀ t, Steps p.tables e below (T22.setTop (mkF m 6 #[.val (.ref a1), .val (.int m1), .unset] [(.ref a1), (.int (16 : Int32))])) t → Steps p.tables e below (s₁.setTop (entryFrame m #[(.ref a1), (.int m1)] 3)) t := fun t kt => pre23 t (by
    refine X22.arraylength hx (by rw [e22]; exact Ar24.1) (State.isArrayOf_alike hZ.alike Ar24.2.1) (g := (mkF m 4 #[.val (.ref a1), .val (.int m1), .unset] [(.ref d1)])) rfl rfl (hb hby d14_4) _ ?_
    rw [len_of S24 M24]
    show Steps p.tables e below (T22.setTop (mkF m 5 #[.val (.ref a1), .val (.int m1), .unset] [(.int (16 : Int32))])) _
    refine XS.aloadN X22.here hx rfl (hb hby d14_5) rfl rfl ?_
    show Steps p.tables e below (T22.setTop (mkF m 6 #[.val (.ref a1), .val (.int m1), .unset] [(.ref a1), (.int (16 : Int32))])) _
    exact kt)
  obtain ⟨T26, X26, e26, st26⟩ := getF X22 hx hZ hown (host := "") (Or.inl (hw _ (List.mem_of_getElem? (i := 66) rfl))) Via.refl e22 F2 (g := (mkF m 6 #[.val (.ref a1), .val (.int m1), .unset] [(.ref a1), (.int (16 : Int32))])) rfl rfl (hb hby d14_6)
  have pre27 : ∀ t, Steps p.tables e below (T26.setTop (mkF m 9 #[.val (.ref a1), .val (.int m1), .unset] [(.int (0 : Int32)), (.int (16 : Int32))])) t → Steps p.tables e below (s₁.setTop (entryFrame m #[(.ref a1), (.int m1)] 3)) t := fun t kt => pre25 t (st26 _ kt)
  have pre28 : ∀ t, Steps p.tables e below (T26.setTop (mkF m 38 #[.val (.ref a1), .val (.int m1), .val (.int (16 : Int32))] [])) t → Steps p.tables e below (s₁.setTop (entryFrame m #[(.ref a1), (.int m1)] 3)) t := fun t kt => pre27 t (by
    refine XS.ishr X26.here hx rfl (hb hby d14_9) rfl ?_
    show Steps p.tables e below (T26.setTop (mkF m 10 #[.val (.ref a1), .val (.int m1), .unset] [(.int (16 : Int32))])) _
    refine XS.istoreN X26.here hx rfl (hb hby d14_10) rfl (l' := #[.val (.ref a1), .val (.int m1), .val (.int (16 : Int32))]) rfl ?_
    show Steps p.tables e below (T26.setTop (mkF m 11 #[.val (.ref a1), .val (.int m1), .val (.int (16 : Int32))] [])) _
    refine XS.iloadN X26.here hx rfl (hb hby d14_11) rfl ?_
    show Steps p.tables e below (T26.setTop (mkF m 12 #[.val (.ref a1), .val (.int m1), .val (.int (16 : Int32))] [(.int m1)])) _
    refine XS.iloadN X26.here hx rfl (hb hby d14_12) rfl ?_
    show Steps p.tables e below (T26.setTop (mkF m 13 #[.val (.ref a1), .val (.int m1), .val (.int (16 : Int32))] [(.int (16 : Int32)), (.int m1)])) _
    refine XS.isub X26.here hx rfl (hb hby d14_13) rfl ?_
    show Steps p.tables e below (T26.setTop (mkF m 14 #[.val (.ref a1), .val (.int m1), .val (.int (16 : Int32))] [(.int (m1 - (16 : Int32)))])) _
    refine XS.ifYes X26.here hx rfl (pc0 := 14) (pc' := 38) rfl (hb hby d14_14) rfl ((if0 _ _).trans (flt (hbd : ¬ ((0 : Int32) < (m1 - (16 : Int32))))).2.2.2) (by decide) (by decide) ?_
    show Steps p.tables e below (T26.setTop (mkF m 38 #[.val (.ref a1), .val (.int m1), .val (.int (16 : Int32))] [])) _
    exact kt)
  obtain ⟨fs, hr, hrun, hended, hW, hsame⟩ := X26.leave (v := none) (fun _ => rfl)
  refine ⟨_, _, pre28 _ ?_, hrun, hended, _, _, rfl, ?_, ⟨_, rfl⟩, hW, hsame.mono (by decide) (by decide)⟩
  · exact X26.returnOut hx Bd.returns (hb hby d14_38) hr
  · show QPu Z  h0 n0 _ T26.heap _
    rw [e26]
    exact ⟨rfl, N0, rfl⟩
def Qgb (Z : State) (d1 : Addr) (kd : ClassId) (vs vd : List Value) (n1 l1 : Int32) (h0 : Heap) (n0 : Nat) (v : Option Value) (h : Heap) (L : List Loc) : Prop := v = none ∧ Fr n0 L ∧ Keep h0 h [d1] ∧ Arv Z h d1 kd .byte (16 : Int32) (vd.take n1.toNatClampNeg ++ vs ++ vd.drop (n1.toNatClampNeg + l1.toNatClampNeg)) (.int (0 : Int32))
theorem ef_rmGb (m : MethodId) (x0 : Addr) (x1 : Addr) (x2 : Int32) (x3 : Int32) : entryFrame m #[(.ref x0), (.ref x1), (.int x2), (.int x3)] 4 = mkF m 0 #[.val (.ref x0), .val (.ref x1), .val (.int x2), .val (.int x3)] [] := by first | (simp [entryFrame, mkF, argsToLocals, Value.category]; done) | rfl
theorem d17_0 : decode jdk_42_method_147_code 0 = .ok (.aload_n 0, 1) := by decide +kernel
theorem d17_1 : decode jdk_42_method_147_code 1 = .ok (.invokevirtual 335, 3) := by decide +kernel
theorem d17_4 : decode jdk_42_method_147_code 4 = .ok (.iload_n 3, 1) := by decide +kernel
theorem d17_5 : decode jdk_42_method_147_code 5 = .ok (.if_icmp .ne 23, 3) := by decide +kernel
theorem d17_8 : decode jdk_42_method_147_code 8 = .ok (.aload_n 0, 1) := by decide +kernel
theorem d17_9 : decode jdk_42_method_147_code 9 = .ok (.getfield 9, 3) := by decide +kernel
theorem d17_12 : decode jdk_42_method_147_code 12 = .ok (.iconst 0, 1) := by decide +kernel
theorem d17_13 : decode jdk_42_method_147_code 13 = .ok (.aload_n 1, 1) := by decide +kernel
theorem d17_14 : decode jdk_42_method_147_code 14 = .ok (.iload_n 2, 1) := by decide +kernel
theorem d17_15 : decode jdk_42_method_147_code 15 = .ok (.iload_n 3, 1) := by decide +kernel
theorem d17_16 : decode jdk_42_method_147_code 16 = .ok (.ishl, 1) := by decide +kernel
theorem d17_17 : decode jdk_42_method_147_code 17 = .ok (.aload_n 0, 1) := by decide +kernel
theorem d17_18 : decode jdk_42_method_147_code 18 = .ok (.getfield 9, 3) := by decide +kernel
theorem d17_21 : decode jdk_42_method_147_code 21 = .ok (.arraylength, 1) := by decide +kernel
theorem d17_22 : decode jdk_42_method_147_code 22 = .ok (.invokestatic 212, 3) := by decide +kernel
theorem d17_25 : decode jdk_42_method_147_code 25 = .ok (.goto 18, 3) := by decide +kernel
theorem d17_43 : decode jdk_42_method_147_code 43 = .ok (.return_, 1) := by decide +kernel
set_option maxRecDepth 65536 in
set_option maxHeartbeats 40000000 in
theorem rmGb (l : Launch) (Z : State) (a0 : Array Value) (hw : ∀ d ∈ tables_1, d.before a0 Z = true) (ws : List Jvm.Cond) (b1 c1 d1 : Addr) (kc kd : ClassId) (vs vd : List Value) (n1 l1 z0 : Int32) (h0 : Heap) (n0 : Nat) (Z0 : n0 ≤ h0.size) (E2 : Exa Z h0 b1 "java/lang/String") (F4 : Fld Z h0 b1 "java/lang/String" "value" "[B" (.ref c1)) (F5 : Fld Z h0 b1 "java/lang/String" "coder" "B" (.int (0 : Int32))) (V2 : Arv Z h0 c1 kc .byte l1 vs (.int (0 : Int32))) (hP : own_P n1 l1 vs) (V1 : Arv Z h0 d1 kd .byte (16 : Int32) vd (.int (0 : Int32))) (hv : vd.length = 16) (g1 : n0 ≤ d1) (O0 : OldL Z n0 h0) (S0 : Sta Z Z.heap "java/lang/String" "COMPACT_STRINGS" "Z" (.int z0)) (hz : ¬ z0 = (0 : Int32)) :
    MetFree l (⟨"java/lang/String", "getBytes", "([BIB)V"⟩ : MethodName) (head1 (Jvm.Cond.code (⟨"java/lang/String", "getBytes", "([BIB)V"⟩ : MethodName) jdk_42_method_147_code 4 none :: ws) ({ frames := 1, cells := 0, slots := 0, locals := 18 } : Room)) (fun a U => a = #[(.ref b1), (.ref d1), (.int n1), (.int (0 : Int32))] ∧ Z.Warmed39 U.vm ∧ U.heap = h0) (fun _ _ _ _ _ => True) (fun _ U o U' => ∃ v L, o = .returned v ∧ Qgb Z d1 kd vs vd n1 l1 h0 n0 v U'.heap L ∧ FrameEnd U o U' L ({ frames := 1, cells := 0, slots := 0, locals := 18 } : Room).cells ({ frames := 1, cells := 0, slots := 0, locals := 18 } : Room).slots) := by
  refine MetFree.of_bodySF (plainFor_of_name pn_java_lang_String) hisR ?_
  intro p e s m args below meth c s₁ Bd hml0 hP hK
  obtain ⟨rfl, hZ, hh⟩ := hP
  have hx := Bd.exec
  have hby := Bd.bytes
  have hml : c.maxLocals = 4 := hml0
  have hown : s.vm.findClass "java/lang/String" = some m.cls := findClass_of_methodNamed Bd.named
  have hnm := (name_of_methodNamed Bd.named Bd.method).1
  have X0 : Stand p l e ({ frames := 1, cells := 0, slots := 0, locals := 18 } : Room) s m #[(.ref b1), (.ref d1), (.int n1), (.int (0 : Int32))] below meth c s₁ [] 0 0 := Stand.of_body Bd
  have e0 : s₁.heap = h0 := by rw [← hh, Bd.state]; rfl
  have N0 := Fr.nil n0
  have pre0 : ∀ t, Steps p.tables e below (s₁.setTop (mkF m 0 #[.val (.ref b1), .val (.ref d1), .val (.int n1), .val (.int (0 : Int32))] [])) t → Steps p.tables e below (s₁.setTop (entryFrame m #[(.ref b1), (.ref d1), (.int n1), (.int (0 : Int32))] 4)) t := fun t kt => castTop (ef_rmGb m b1 d1 n1 (0 : Int32)) kt
  have pre21 : ∀ t, Steps p.tables e below (s₁.setTop (mkF m 1 #[.val (.ref b1), .val (.ref d1), .val (.int n1), .val (.int (0 : Int32))] [(.ref b1)])) t → Steps p.tables e below (s₁.setTop (entryFrame m #[(.ref b1), (.ref d1), (.int n1), (.int (0 : Int32))] 4)) t := fun t kt => pre0 t (by
    refine XS.aloadN X0.here hx rfl (hb hby d17_0) rfl rfl ?_
    show Steps p.tables e below (s₁.setTop (mkF m 1 #[.val (.ref b1), .val (.ref d1), .val (.int n1), .val (.int (0 : Int32))] [(.ref b1)])) _
    exact kt)
  obtain ⟨cq22, kq22, q22a, q22b, q22c⟩ := isOf hZ e0 (E2)
  obtain ⟨_, _, ⟨T22, L22, k22, n22⟩, -, X22, ⟨Lc22, hQ22, l22, y22, z22⟩, st22⟩ := X0.virtualBack hx (y := (⟨"java/lang/String", "coder", "()B"⟩ : MethodName)) (z := (⟨"java/lang/String", "coder", "()B"⟩ : MethodName)) hown (mvT hZ (hw _ (List.mem_of_getElem? (i := 83) rfl))) (mvT hZ (hw _ (List.mem_of_getElem? (i := 84) rfl))) (notFace_of_selects (args := #[]) (mvT hZ (hw _ (List.mem_of_getElem? (i := 86) rfl)))) (mvT hZ (hw _ (List.mem_of_getElem? (i := 86) rfl))) (mvT hZ (hw _ (List.mem_of_getElem? (i := 85) rfl))) (by decide) (backOf (W := 0) (rmCo l Z a0 hw [] b1 z0 h0 n0 Z0 F5 O0 S0 hz) hZ (hw _ (List.mem_of_getElem? (i := 87) rfl)) (hw _ (List.mem_of_getElem? (i := 6) rfl)) (by decide) (by decide)) q22a q22c (g := (mkF m 1 #[.val (.ref b1), .val (.ref d1), .val (.int n1), .val (.int (0 : Int32))] [(.ref b1)])) rfl (by rw [hml]; rfl) (Steps.refl _) (argsL := []) (rest := []) (lenOf pd__28_29B rfl) rfl (by show 2 * 0 + _ ≤ _; exact Nat.le_of_eq rfl) (hb hby d17_1) (fun _ _ => ⟨rfl, e0, (by decide : 0 + 0 ≤ _), (by decide : 0 + 0 ≤ _)⟩)
  dsimp only [Pt.U, Pt.locs, Pt.cells, Pt.slots] at X22 l22 y22 z22 st22 hQ22
  subst l22 y22 z22
  obtain ⟨rfl, N22q, e22q⟩ := hQ22
  have N22 := Fr.app N0 N22q
  have pre23 : ∀ t, Steps p.tables e below (T22.setTop (mkF m 4 #[.val (.ref b1), .val (.ref d1), .val (.int n1), .val (.int (0 : Int32))] [(.int (0 : Int32))])) t → Steps p.tables e below (s₁.setTop (entryFrame m #[(.ref b1), (.ref d1), (.int n1), (.int (0 : Int32))] 4)) t := fun t kt => pre21 t (st22.trans kt)
  have pre24 : ∀ t, Steps p.tables e below (T22.setTop (mkF m 9 #[.val (.ref b1), .val (.ref d1), .val (.int n1), .val (.int (0 : Int32))] [(.ref b1)])) t → Steps p.tables e below (s₁.setTop (entryFrame m #[(.ref b1), (.ref d1), (.int n1), (.int (0 : Int32))] 4)) t := fun t kt => pre23 t (by
    refine XS.iloadN X22.here hx rfl (hb hby d17_4) rfl ?_
    show Steps p.tables e below (T22.setTop (mkF m 5 #[.val (.ref b1), .val (.ref d1), .val (.int n1), .val (.int (0 : Int32))] [(.int (0 : Int32)), (.int (0 : Int32))])) _
    refine XS.icmpNo X22.here hx rfl (hb hby d17_5) rfl (teq (by decide : (0 : Int32) = (0 : Int32))).2 ?_
    show Steps p.tables e below (T22.setTop (mkF m 8 #[.val (.ref b1), .val (.ref d1), .val (.int n1), .val (.int (0 : Int32))] [])) _
    refine XS.aloadN X22.here hx rfl (hb hby d17_8) rfl rfl ?_
    show Steps p.tables e below (T22.setTop (mkF m 9 #[.val (.ref b1), .val (.ref d1), .val (.int n1), .val (.int (0 : Int32))] [(.ref b1)])) _
    exact kt)
  obtain ⟨T25, X25, e25, st25⟩ := getF X22 hx hZ hown (host := "") (Or.inl (hw _ (List.mem_of_getElem? (i := 24) rfl))) Via.refl e22q F4 (g := (mkF m 9 #[.val (.ref b1), .val (.ref d1), .val (.int n1), .val (.int (0 : Int32))] [(.ref b1)])) rfl rfl (hb hby d17_9)
  have pre26 : ∀ t, Steps p.tables e below (T25.setTop (mkF m 12 #[.val (.ref b1), .val (.ref d1), .val (.int n1), .val (.int (0 : Int32))] [(.ref c1)])) t → Steps p.tables e below (s₁.setTop (entryFrame m #[(.ref b1), (.ref d1), (.int n1), (.int (0 : Int32))] 4)) t := fun t kt => pre24 t (st25 _ kt)
  have pre27 : ∀ t, Steps p.tables e below (T25.setTop (mkF m 17 #[.val (.ref b1), .val (.ref d1), .val (.int n1), .val (.int (0 : Int32))] [(.int (n1 <<< ((0 : Int32) &&& 31))), (.ref d1), (.int (0 : Int32)), (.ref c1)])) t → Steps p.tables e below (s₁.setTop (entryFrame m #[(.ref b1), (.ref d1), (.int n1), (.int (0 : Int32))] 4)) t := fun t kt => pre26 t (by
    refine XS.iconst X25.here hx rfl (hb hby d17_12) ?_
    show Steps p.tables e below (T25.setTop (mkF m 13 #[.val (.ref b1), .val (.ref d1), .val (.int n1), .val (.int (0 : Int32))] [(.int (0 : Int32)), (.ref c1)])) _
    refine XS.aloadN X25.here hx rfl (hb hby d17_13) rfl rfl ?_
    show Steps p.tables e below (T25.setTop (mkF m 14 #[.val (.ref b1), .val (.ref d1), .val (.int n1), .val (.int (0 : Int32))] [(.ref d1), (.int (0 : Int32)), (.ref c1)])) _
    refine XS.iloadN X25.here hx rfl (hb hby d17_14) rfl ?_
    show Steps p.tables e below (T25.setTop (mkF m 15 #[.val (.ref b1), .val (.ref d1), .val (.int n1), .val (.int (0 : Int32))] [(.int n1), (.ref d1), (.int (0 : Int32)), (.ref c1)])) _
    refine XS.iloadN X25.here hx rfl (hb hby d17_15) rfl ?_
    show Steps p.tables e below (T25.setTop (mkF m 16 #[.val (.ref b1), .val (.ref d1), .val (.int n1), .val (.int (0 : Int32))] [(.int (0 : Int32)), (.int n1), (.ref d1), (.int (0 : Int32)), (.ref c1)])) _
    refine XS.ishl X25.here hx rfl (hb hby d17_16) rfl ?_
    show Steps p.tables e below (T25.setTop (mkF m 17 #[.val (.ref b1), .val (.ref d1), .val (.int n1), .val (.int (0 : Int32))] [(.int (n1 <<< ((0 : Int32) &&& 31))), (.ref d1), (.int (0 : Int32)), (.ref c1)])) _
    exact kt)
  have hv28 : (n1 <<< ((0 : Int32) &&& 31)) = n1 := own_shl0 n1
  have pre28 : ∀ t, Steps p.tables e below (T25.setTop (mkF m 17 #[.val (.ref b1), .val (.ref d1), .val (.int n1), .val (.int (0 : Int32))] [(.int n1), (.ref d1), (.int (0 : Int32)), (.ref c1)])) t → Steps p.tables e below (s₁.setTop (entryFrame m #[(.ref b1), (.ref d1), (.int n1), (.int (0 : Int32))] 4)) t := fun t kt => pre27 t (by rw [hv28]; exact kt)
  have pre29 : ∀ t, Steps p.tables e below (T25.setTop (mkF m 18 #[.val (.ref b1), .val (.ref d1), .val (.int n1), .val (.int (0 : Int32))] [(.ref b1), (.int n1), (.ref d1), (.int (0 : Int32)), (.ref c1)])) t → Steps p.tables e below (s₁.setTop (entryFrame m #[(.ref b1), (.ref d1), (.int n1), (.int (0 : Int32))] 4)) t := fun t kt => pre28 t (by
    refine XS.aloadN X25.here hx rfl (hb hby d17_17) rfl rfl ?_
    show Steps p.tables e below (T25.setTop (mkF m 18 #[.val (.ref b1), .val (.ref d1), .val (.int n1), .val (.int (0 : Int32))] [(.ref b1), (.int n1), (.ref d1), (.int (0 : Int32)), (.ref c1)])) _
    exact kt)
  obtain ⟨T30, X30, e30, st30⟩ := getF X25 hx hZ hown (host := "") (Or.inl (hw _ (List.mem_of_getElem? (i := 24) rfl))) Via.refl e25 F4 (g := (mkF m 18 #[.val (.ref b1), .val (.ref d1), .val (.int n1), .val (.int (0 : Int32))] [(.ref b1), (.int n1), (.ref d1), (.int (0 : Int32)), (.ref c1)])) rfl rfl (hb hby d17_18)
  have pre31 : ∀ t, Steps p.tables e below (T30.setTop (mkF m 21 #[.val (.ref b1), .val (.ref d1), .val (.int n1), .val (.int (0 : Int32))] [(.ref c1), (.int n1), (.ref d1), (.int (0 : Int32)), (.ref c1)])) t → Steps p.tables e below (s₁.setTop (entryFrame m #[(.ref b1), (.ref d1), (.int n1), (.int (0 : Int32))] 4)) t := fun t kt => pre29 t (st30 _ kt)
  obtain ⟨cl32, Ar32, -, S32, M32, -⟩ := id (V2)
  have pre33 : ∀ t, Steps p.tables e below (T30.setTop (mkF m 22 #[.val (.ref b1), .val (.ref d1), .val (.int n1), .val (.int (0 : Int32))] [(.int l1), (.int n1), (.ref d1), (.int (0 : Int32)), (.ref c1)])) t → Steps p.tables e below (s₁.setTop (entryFrame m #[(.ref b1), (.ref d1), (.int n1), (.int (0 : Int32))] 4)) t := fun t kt => pre31 t (by
    refine X30.arraylength hx (by rw [e30]; exact Ar32.1) (State.isArrayOf_alike hZ.alike Ar32.2.1) (g := (mkF m 21 #[.val (.ref b1), .val (.ref d1), .val (.int n1), .val (.int (0 : Int32))] [(.ref c1), (.int n1), (.ref d1), (.int (0 : Int32)), (.ref c1)])) rfl rfl (hb hby d17_21) _ ?_
    rw [len_of S32 M32]
    show Steps p.tables e below (T30.setTop (mkF m 22 #[.val (.ref b1), .val (.ref d1), .val (.int n1), .val (.int (0 : Int32))] [(.int l1), (.int n1), (.ref d1), (.int (0 : Int32)), (.ref c1)])) _
    exact kt)
  obtain ⟨T34, h34, L34, X34, e34, Nc34, K34, Vc34, st34⟩ := cpA X30 hx hZ hown (hw _ (List.mem_of_getElem? (i := 112) rfl)) (hw _ (List.mem_of_getElem? (i := 115) rfl)) (hw _ (List.mem_of_getElem? (i := 113) rfl)) (hw _ (List.mem_of_getElem? (i := 114) rfl)) e30 (V2) (V1) (sp := (0 : Int32)) (dp := n1) (nn := l1) (us := vs) (Or.inl ⟨rfl, rfl⟩) (by decide) hP.1 hP.2.1 (Nat.le_of_eq (Nat.zero_add _)) hP.2.2.1 (own_us hP.2.2.2.1) (by rw [hv]; exact hP.2.2.1) N22 g1 (g := (mkF m 22 #[.val (.ref b1), .val (.ref d1), .val (.int n1), .val (.int (0 : Int32))] [(.int l1), (.int n1), (.ref d1), (.int (0 : Int32)), (.ref c1)])) rfl (by rw [hml]; rfl) rfl (hb hby d17_22) (by decide) (W := 0) (by show 2 * 0 + _ ≤ _; exact Nat.le_of_eq rfl) (by decide)
  subst e34
  have f35 := (E2).keep K34
  have f36 := (O0).keep K34 (own_all1 g1)
  have f37 := ((Keep.refl h0 [d1])).trans K34 (own_all1 (Or.inl (List.mem_singleton.mpr rfl)))
  have Zf38 : n0 ≤ T34.heap.size := Nat.le_trans Z0 (K34).1
  have Vd34 : Arv Z T34.heap d1 kd .byte (16 : Int32) (vd.take n1.toNatClampNeg ++ vs ++ vd.drop (n1.toNatClampNeg + l1.toNatClampNeg)) (.int (0 : Int32)) := Vc34
  have pre39 : ∀ t, Steps p.tables e below (T34.setTop (mkF m 25 #[.val (.ref b1), .val (.ref d1), .val (.int n1), .val (.int (0 : Int32))] [])) t → Steps p.tables e below (s₁.setTop (entryFrame m #[(.ref b1), (.ref d1), (.int n1), (.int (0 : Int32))] 4)) t := fun t kt => pre33 t (st34 _ kt)
  have pre40 : ∀ t, Steps p.tables e below (T34.setTop (mkF m 43 #[.val (.ref b1), .val (.ref d1), .val (.int n1), .val (.int (0 : Int32))] [])) t → Steps p.tables e below (s₁.setTop (entryFrame m #[(.ref b1), (.ref d1), (.int n1), (.int (0 : Int32))] 4)) t := fun t kt => pre39 t (by
    refine XS.goto X34.here hx rfl (pc0 := 25) (pc' := 43) rfl (hb hby d17_25) (by decide) (by decide) ?_
    show Steps p.tables e below (T34.setTop (mkF m 43 #[.val (.ref b1), .val (.ref d1), .val (.int n1), .val (.int (0 : Int32))] [])) _
    exact kt)
  obtain ⟨fs, hr, hrun, hended, hW, hsame⟩ := X34.leave (v := none) (fun _ => rfl)
  refine ⟨_, _, pre40 _ ?_, hrun, hended, _, _, rfl, ?_, ⟨_, rfl⟩, hW, hsame.mono (by decide) (by decide)⟩
  · exact X34.returnOut hx Bd.returns (hb hby d17_43) hr
  · show Qgb Z d1 kd vs vd n1 l1 h0 n0 _ T34.heap _
    exact ⟨rfl, Nc34, f37, Vd34⟩
theorem ef_rmPs (m : MethodId) (x0 : Addr) (x1 : Int32) (x2 : Addr) : entryFrame m #[(.ref x0), (.int x1), (.ref x2)] 3 = mkF m 0 #[.val (.ref x0), .val (.int x1), .val (.ref x2)] [] := by first | (simp [entryFrame, mkF, argsToLocals, Value.category]; done) | rfl
theorem d15_0 : decode jdk_68_method_73_code 0 = .ok (.aload_n 0, 1) := by decide +kernel
theorem d15_1 : decode jdk_68_method_73_code 1 = .ok (.aload_n 2, 1) := by decide +kernel
theorem pd__28Ljava_2flang_2fString_3b_29V : parseMethodDescriptor "(Ljava/lang/String;)V" = some ⟨[(.object "java/lang/String")], none⟩ := by decide +kernel
theorem d15_2 : decode jdk_68_method_73_code 2 = .ok (.invokevirtual 397, 3) := by decide +kernel
theorem d15_5 : decode jdk_68_method_73_code 5 = .ok (.aload_n 2, 1) := by decide +kernel
theorem d15_6 : decode jdk_68_method_73_code 6 = .ok (.aload_n 0, 1) := by decide +kernel
theorem d15_7 : decode jdk_68_method_73_code 7 = .ok (.getfield 15, 3) := by decide +kernel
theorem d15_10 : decode jdk_68_method_73_code 10 = .ok (.iload_n 1, 1) := by decide +kernel
theorem d15_11 : decode jdk_68_method_73_code 11 = .ok (.aload_n 0, 1) := by decide +kernel
theorem d15_12 : decode jdk_68_method_73_code 12 = .ok (.getfield 22, 3) := by decide +kernel
theorem pd__28_5bBIB_29V : parseMethodDescriptor "([BIB)V" = some ⟨[(.array .byte), .int, .byte], none⟩ := by decide +kernel
theorem d15_15 : decode jdk_68_method_73_code 15 = .ok (.invokevirtual 399, 3) := by decide +kernel
theorem d15_18 : decode jdk_68_method_73_code 18 = .ok (.return_, 1) := by decide +kernel
set_option maxRecDepth 65536 in
set_option maxHeartbeats 40000000 in
theorem rmPs (l : Launch) (Z : State) (a0 : Array Value) (hw : ∀ d ∈ tables_1, d.before a0 Z = true) (ws : List Jvm.Cond) (a1 b1 c1 d1 : Addr) (kc kd : ClassId) (vs vd : List Value) (n1 l1 z0 : Int32) (h0 : Heap) (n0 : Nat) (Z0 : n0 ≤ h0.size) (E1 : Exa Z h0 a1 "java/lang/StringBuilder") (F1 : Fld Z h0 a1 "java/lang/AbstractStringBuilder" "value" "[B" (.ref d1)) (F2 : Fld Z h0 a1 "java/lang/AbstractStringBuilder" "coder" "B" (.int (0 : Int32))) (E2 : Exa Z h0 b1 "java/lang/String") (F4 : Fld Z h0 b1 "java/lang/String" "value" "[B" (.ref c1)) (F5 : Fld Z h0 b1 "java/lang/String" "coder" "B" (.int (0 : Int32))) (V2 : Arv Z h0 c1 kc .byte l1 vs (.int (0 : Int32))) (hP : own_P n1 l1 vs) (V1 : Arv Z h0 d1 kd .byte (16 : Int32) vd (.int (0 : Int32))) (hv : vd.length = 16) (g1 : n0 ≤ d1) (O0 : OldL Z n0 h0) (S0 : Sta Z Z.heap "java/lang/String" "COMPACT_STRINGS" "Z" (.int z0)) (hz : ¬ z0 = (0 : Int32)) :
    MetFree l (⟨"java/lang/AbstractStringBuilder", "putStringAt", "(ILjava/lang/String;)V"⟩ : MethodName) (head1 (Jvm.Cond.code (⟨"java/lang/AbstractStringBuilder", "putStringAt", "(ILjava/lang/String;)V"⟩ : MethodName) jdk_68_method_73_code 3 none :: ws) ({ frames := 2, cells := 0, slots := 0, locals := 33 } : Room)) (fun a U => a = #[(.ref a1), (.int n1), (.ref b1)] ∧ Z.Warmed39 U.vm ∧ U.heap = h0) (fun _ _ _ _ _ => True) (fun _ U o U' => ∃ v L, o = .returned v ∧ Qgb Z d1 kd vs vd n1 l1 h0 n0 v U'.heap L ∧ FrameEnd U o U' L ({ frames := 2, cells := 0, slots := 0, locals := 33 } : Room).cells ({ frames := 2, cells := 0, slots := 0, locals := 33 } : Room).slots) := by
  refine MetFree.of_bodySF (plainFor_of_name pn_java_lang_AbstractStringBuilder) hisR ?_
  intro p e s m args below meth c s₁ Bd hml0 hP hK
  obtain ⟨rfl, hZ, hh⟩ := hP
  have hx := Bd.exec
  have hby := Bd.bytes
  have hml : c.maxLocals = 3 := hml0
  have hown : s.vm.findClass "java/lang/AbstractStringBuilder" = some m.cls := findClass_of_methodNamed Bd.named
  have hnm := (name_of_methodNamed Bd.named Bd.method).1
  have X0 : Stand p l e ({ frames := 2, cells := 0, slots := 0, locals := 33 } : Room) s m #[(.ref a1), (.int n1), (.ref b1)] below meth c s₁ [] 0 0 := Stand.of_body Bd
  have e0 : s₁.heap = h0 := by rw [← hh, Bd.state]; rfl
  have N0 := Fr.nil n0
  have pre0 : ∀ t, Steps p.tables e below (s₁.setTop (mkF m 0 #[.val (.ref a1), .val (.int n1), .val (.ref b1)] [])) t → Steps p.tables e below (s₁.setTop (entryFrame m #[(.ref a1), (.int n1), (.ref b1)] 3)) t := fun t kt => castTop (ef_rmPs m a1 n1 b1) kt
  have pre21 : ∀ t, Steps p.tables e below (s₁.setTop (mkF m 2 #[.val (.ref a1), .val (.int n1), .val (.ref b1)] [(.ref b1), (.ref a1)])) t → Steps p.tables e below (s₁.setTop (entryFrame m #[(.ref a1), (.int n1), (.ref b1)] 3)) t := fun t kt => pre0 t (by
    refine XS.aloadN X0.here hx rfl (hb hby d15_0) rfl rfl ?_
    show Steps p.tables e below (s₁.setTop (mkF m 1 #[.val (.ref a1), .val (.int n1), .val (.ref b1)] [(.ref a1)])) _
    refine XS.aloadN X0.here hx rfl (hb hby d15_1) rfl rfl ?_
    show Steps p.tables e below (s₁.setTop (mkF m 2 #[.val (.ref a1), .val (.int n1), .val (.ref b1)] [(.ref b1), (.ref a1)])) _
    exact kt)
  obtain ⟨cq22, kq22, q22a, q22b, q22c⟩ := isOf hZ e0 (E1)
  obtain ⟨_, _, ⟨T22, L22, k22, n22⟩, -, X22, ⟨Lc22, hQ22, l22, y22, z22⟩, st22⟩ := X0.virtualBack hx (y := (⟨"java/lang/AbstractStringBuilder", "inflateIfNeededFor", "(Ljava/lang/String;)V"⟩ : MethodName)) (z := (⟨"java/lang/AbstractStringBuilder", "inflateIfNeededFor", "(Ljava/lang/String;)V"⟩ : MethodName)) hown (mvT hZ (hw _ (List.mem_of_getElem? (i := 101) rfl))) (mvT hZ (own_declares (hw _ (List.mem_of_getElem? (i := 102) rfl)) (hw _ (List.mem_of_getElem? (i := 105) rfl)))) (notFace_of_selects (args := #[]) (mvT hZ (hw _ (List.mem_of_getElem? (i := 104) rfl)))) (mvT hZ (hw _ (List.mem_of_getElem? (i := 104) rfl))) (mvT hZ (hw _ (List.mem_of_getElem? (i := 102) rfl))) (by decide) (backOf (W := 0) (rmIn l Z a0 hw [] a1 b1 z0 h0 n0 Z0 F2 E2 F5 O0 S0 hz) hZ (hw _ (List.mem_of_getElem? (i := 105) rfl)) (hw _ (List.mem_of_getElem? (i := 60) rfl)) (by decide) (by decide)) q22a q22c (g := (mkF m 2 #[.val (.ref a1), .val (.int n1), .val (.ref b1)] [(.ref b1), (.ref a1)])) rfl (by rw [hml]; rfl) (Steps.refl _) (argsL := [(.ref b1)]) (rest := []) (lenOf pd__28Ljava_2flang_2fString_3b_29V rfl) rfl (by show 2 * 0 + _ ≤ _; exact Nat.le_of_eq rfl) (hb hby d15_2) (fun _ _ => ⟨rfl, e0, (by decide : 0 + 0 ≤ _), (by decide : 0 + 0 ≤ _)⟩)
  dsimp only [Pt.U, Pt.locs, Pt.cells, Pt.slots] at X22 l22 y22 z22 st22 hQ22
  subst l22 y22 z22
  obtain ⟨rfl, N22q, e22q⟩ := hQ22
  have N22 := Fr.app N0 N22q
  have pre23 : ∀ t, Steps p.tables e below (T22.setTop (mkF m 5 #[.val (.ref a1), .val (.int n1), .val (.ref b1)] [])) t → Steps p.tables e below (s₁.setTop (entryFrame m #[(.ref a1), (.int n1), (.ref b1)] 3)) t := fun t kt => pre21 t (st22.trans kt)
  have pre24 : ∀ t, Steps p.tables e below (T22.setTop (mkF m 7 #[.val (.ref a1), .val (.int n1), .val (.ref b1)] [(.ref a1), (.ref b1)])) t → Steps p.tables e below (s₁.setTop (entryFrame m #[(.ref a1), (.int n1), (.ref b1)] 3)) t := fun t kt => pre23 t (by
    refine XS.aloadN X22.here hx rfl (hb hby d15_5) rfl rfl ?_
    show Steps p.tables e below (T22.setTop (mkF m 6 #[.val (.ref a1), .val (.int n1), .val (.ref b1)] [(.ref b1)])) _
    refine XS.aloadN X22.here hx rfl (hb hby d15_6) rfl rfl ?_
    show Steps p.tables e below (T22.setTop (mkF m 7 #[.val (.ref a1), .val (.int n1), .val (.ref b1)] [(.ref a1), (.ref b1)])) _
    exact kt)
  obtain ⟨T25, X25, e25, st25⟩ := getF X22 hx hZ hown (host := "") (Or.inl (hw _ (List.mem_of_getElem? (i := 64) rfl))) Via.refl e22q F1 (g := (mkF m 7 #[.val (.ref a1), .val (.int n1), .val (.ref b1)] [(.ref a1), (.ref b1)])) rfl rfl (hb hby d15_7)
  have pre26 : ∀ t, Steps p.tables e below (T25.setTop (mkF m 10 #[.val (.ref a1), .val (.int n1), .val (.ref b1)] [(.ref d1), (.ref b1)])) t → Steps p.tables e below (s₁.setTop (entryFrame m #[(.ref a1), (.int n1), (.ref b1)] 3)) t := fun t kt => pre24 t (st25 _ kt)
  have pre27 : ∀ t, Steps p.tables e below (T25.setTop (mkF m 12 #[.val (.ref a1), .val (.int n1), .val (.ref b1)] [(.ref a1), (.int n1), (.ref d1), (.ref b1)])) t → Steps p.tables e below (s₁.setTop (entryFrame m #[(.ref a1), (.int n1), (.ref b1)] 3)) t := fun t kt => pre26 t (by
    refine XS.iloadN X25.here hx rfl (hb hby d15_10) rfl ?_
    show Steps p.tables e below (T25.setTop (mkF m 11 #[.val (.ref a1), .val (.int n1), .val (.ref b1)] [(.int n1), (.ref d1), (.ref b1)])) _
    refine XS.aloadN X25.here hx rfl (hb hby d15_11) rfl rfl ?_
    show Steps p.tables e below (T25.setTop (mkF m 12 #[.val (.ref a1), .val (.int n1), .val (.ref b1)] [(.ref a1), (.int n1), (.ref d1), (.ref b1)])) _
    exact kt)
  obtain ⟨T28, X28, e28, st28⟩ := getF X25 hx hZ hown (host := "") (Or.inl (hw _ (List.mem_of_getElem? (i := 66) rfl))) Via.refl e25 F2 (g := (mkF m 12 #[.val (.ref a1), .val (.int n1), .val (.ref b1)] [(.ref a1), (.int n1), (.ref d1), (.ref b1)])) rfl rfl (hb hby d15_12)
  have pre29 : ∀ t, Steps p.tables e below (T28.setTop (mkF m 15 #[.val (.ref a1), .val (.int n1), .val (.ref b1)] [(.int (0 : Int32)), (.int n1), (.ref d1), (.ref b1)])) t → Steps p.tables e below (s₁.setTop (entryFrame m #[(.ref a1), (.int n1), (.ref b1)] 3)) t := fun t kt => pre27 t (st28 _ kt)
  obtain ⟨cq30, kq30, q30a, q30b, q30c⟩ := isOf hZ e28 (E2)
  obtain ⟨_, _, ⟨T30, L30, k30, n30⟩, -, X30, ⟨Lc30, hQ30, l30, y30, z30⟩, st30⟩ := X28.virtualBack hx (y := (⟨"java/lang/String", "getBytes", "([BIB)V"⟩ : MethodName)) (z := (⟨"java/lang/String", "getBytes", "([BIB)V"⟩ : MethodName)) hown (mvT hZ (hw _ (List.mem_of_getElem? (i := 107) rfl))) (mvT hZ (hw _ (List.mem_of_getElem? (i := 108) rfl))) (notFace_of_selects (args := #[]) (mvT hZ (hw _ (List.mem_of_getElem? (i := 110) rfl)))) (mvT hZ (hw _ (List.mem_of_getElem? (i := 110) rfl))) (mvT hZ (hw _ (List.mem_of_getElem? (i := 109) rfl))) (by decide) (backOf (W := 0) (rmGb l Z a0 hw [] b1 c1 d1 _ _ _ _ n1 l1 z0 h0 n0 Z0 E2 F4 F5 V2 hP V1 hv g1 O0 S0 hz) hZ (hw _ (List.mem_of_getElem? (i := 111) rfl)) (hw _ (List.mem_of_getElem? (i := 6) rfl)) (by decide) (by decide)) q30a q30c (g := (mkF m 15 #[.val (.ref a1), .val (.int n1), .val (.ref b1)] [(.int (0 : Int32)), (.int n1), (.ref d1), (.ref b1)])) rfl (by rw [hml]; rfl) (Steps.refl _) (argsL := [(.ref d1), (.int n1), (.int (0 : Int32))]) (rest := []) (lenOf pd__28_5bBIB_29V rfl) rfl (by show 2 * 0 + _ ≤ _; exact Nat.le_of_eq rfl) (hb hby d15_15) (fun _ _ => ⟨rfl, e28, (by decide : 0 + 0 ≤ _), (by decide : 0 + 0 ≤ _)⟩)
  dsimp only [Pt.U, Pt.locs, Pt.cells, Pt.slots] at X30 l30 y30 z30 st30 hQ30
  subst l30 y30 z30
  obtain ⟨rfl, N30q, K30, Va30⟩ := hQ30
  have N30 := Fr.app N22 N30q
  have f31 := (E2).keep K30
  have f32 := (O0).keep K30 (own_all1 g1)
  have f33 := ((Keep.refl h0 [d1])).trans K30 (own_all1 (Or.inl (List.mem_singleton.mpr rfl)))
  have f34 := (E1).keep K30
  have Zf35 : n0 ≤ T30.heap.size := Nat.le_trans Z0 (K30).1
  have pre36 : ∀ t, Steps p.tables e below (T30.setTop (mkF m 18 #[.val (.ref a1), .val (.int n1), .val (.ref b1)] [])) t → Steps p.tables e below (s₁.setTop (entryFrame m #[(.ref a1), (.int n1), (.ref b1)] 3)) t := fun t kt => pre29 t (st30.trans kt)
  obtain ⟨fs, hr, hrun, hended, hW, hsame⟩ := X30.leave (v := none) (fun _ => rfl)
  refine ⟨_, _, pre36 _ ?_, hrun, hended, _, _, rfl, ?_, ⟨_, rfl⟩, hW, hsame.mono (by decide) (by decide)⟩
  · exact X30.returnOut hx Bd.returns (hb hby d15_18) hr
  · show Qgb Z d1 kd vs vd n1 l1 h0 n0 _ T30.heap _
    exact ⟨rfl, N30, f33, Va30⟩
def Qaa (Z : State) (a1 d1 : Addr) (kd : ClassId) (vs vd : List Value) (n1 l1 : Int32) (h0 : Heap) (n0 : Nat) (v : Option Value) (h : Heap) (L : List Loc) : Prop := v = some (.ref a1) ∧ Fr n0 L ∧ Keep h0 h [a1, d1] ∧ Fld Z h a1 "java/lang/AbstractStringBuilder" "value" "[B" (.ref d1) ∧ Fld Z h a1 "java/lang/AbstractStringBuilder" "coder" "B" (.int (0 : Int32)) ∧ Fld Z h a1 "java/lang/AbstractStringBuilder" "count" "I" (.int (n1 + l1)) ∧ Arv Z h d1 kd .byte (16 : Int32) (vd.take n1.toNatClampNeg ++ vs ++ vd.drop (n1.toNatClampNeg + l1.toNatClampNeg)) (.int (0 : Int32))
theorem ef_rmAa (m : MethodId) (x0 : Addr) (x1 : Addr) : entryFrame m #[(.ref x0), (.ref x1)] 3 = mkF m 0 #[.val (.ref x0), .val (.ref x1), .unset] [] := by first | (simp [entryFrame, mkF, argsToLocals, Value.category]; done) | rfl
theorem d11_0 : decode jdk_68_method_22_code 0 = .ok (.aload_n 1, 1) := by decide +kernel
theorem d11_1 : decode jdk_68_method_22_code 1 = .ok (.ifnonnull 8, 3) := by decide +kernel
theorem d11_9 : decode jdk_68_method_22_code 9 = .ok (.aload_n 1, 1) := by decide +kernel
theorem pd__28_29I : parseMethodDescriptor "()I" = some ⟨[], some .int⟩ := by decide +kernel
theorem d11_10 : decode jdk_68_method_22_code 10 = .ok (.invokevirtual 32, 3) := by decide +kernel
theorem d11_13 : decode jdk_68_method_22_code 13 = .ok (.istore_n 2, 1) := by decide +kernel
theorem d11_14 : decode jdk_68_method_22_code 14 = .ok (.aload_n 0, 1) := by decide +kernel
theorem d11_15 : decode jdk_68_method_22_code 15 = .ok (.aload_n 0, 1) := by decide +kernel
theorem d11_16 : decode jdk_68_method_22_code 16 = .ok (.getfield 79, 3) := by decide +kernel
theorem d11_19 : decode jdk_68_method_22_code 19 = .ok (.iload_n 2, 1) := by decide +kernel
theorem d11_20 : decode jdk_68_method_22_code 20 = .ok (.iadd, 1) := by decide +kernel
theorem pd__28I_29V : parseMethodDescriptor "(I)V" = some ⟨[.int], none⟩ := by decide +kernel
theorem d11_21 : decode jdk_68_method_22_code 21 = .ok (.invokevirtual 100, 3) := by decide +kernel
theorem d11_24 : decode jdk_68_method_22_code 24 = .ok (.aload_n 0, 1) := by decide +kernel
theorem d11_25 : decode jdk_68_method_22_code 25 = .ok (.aload_n 0, 1) := by decide +kernel
theorem d11_26 : decode jdk_68_method_22_code 26 = .ok (.getfield 79, 3) := by decide +kernel
theorem d11_29 : decode jdk_68_method_22_code 29 = .ok (.aload_n 1, 1) := by decide +kernel
theorem pd__28ILjava_2flang_2fString_3b_29V : parseMethodDescriptor "(ILjava/lang/String;)V" = some ⟨[.int, (.object "java/lang/String")], none⟩ := by decide +kernel
theorem d11_30 : decode jdk_68_method_22_code 30 = .ok (.invokevirtual 208, 3) := by decide +kernel
theorem d11_33 : decode jdk_68_method_22_code 33 = .ok (.aload_n 0, 1) := by decide +kernel
theorem d11_34 : decode jdk_68_method_22_code 34 = .ok (.dup, 1) := by decide +kernel
theorem d11_35 : decode jdk_68_method_22_code 35 = .ok (.getfield 79, 3) := by decide +kernel
theorem d11_38 : decode jdk_68_method_22_code 38 = .ok (.iload_n 2, 1) := by decide +kernel
theorem d11_39 : decode jdk_68_method_22_code 39 = .ok (.iadd, 1) := by decide +kernel
theorem d11_40 : decode jdk_68_method_22_code 40 = .ok (.putfield 79, 3) := by decide +kernel
theorem d11_43 : decode jdk_68_method_22_code 43 = .ok (.aload_n 0, 1) := by decide +kernel
theorem d11_44 : decode jdk_68_method_22_code 44 = .ok (.areturn, 1) := by decide +kernel
set_option maxRecDepth 65536 in
set_option maxHeartbeats 40000000 in
theorem rmAa (l : Launch) (Z : State) (a0 : Array Value) (hw : ∀ d ∈ tables_1, d.before a0 Z = true) (ws : List Jvm.Cond) (a1 b1 c1 d1 : Addr) (kc kd : ClassId) (vs vd : List Value) (n1 l1 z0 : Int32) (h0 : Heap) (n0 : Nat) (Z0 : n0 ≤ h0.size) (E1 : Exa Z h0 a1 "java/lang/StringBuilder") (g0 : n0 ≤ a1) (F1 : Fld Z h0 a1 "java/lang/AbstractStringBuilder" "value" "[B" (.ref d1)) (F2 : Fld Z h0 a1 "java/lang/AbstractStringBuilder" "coder" "B" (.int (0 : Int32))) (F3 : Fld Z h0 a1 "java/lang/AbstractStringBuilder" "count" "I" (.int n1)) (V1 : Arv Z h0 d1 kd .byte (16 : Int32) vd (.int (0 : Int32))) (hv : vd.length = 16) (g1 : n0 ≤ d1) (ne1 : d1 ≠ a1) (ne2 : b1 ≠ a1) (ne3 : c1 ≠ a1) (E2 : Exa Z h0 b1 "java/lang/String") (F4 : Fld Z h0 b1 "java/lang/String" "value" "[B" (.ref c1)) (F5 : Fld Z h0 b1 "java/lang/String" "coder" "B" (.int (0 : Int32))) (V2 : Arv Z h0 c1 kc .byte l1 vs (.int (0 : Int32))) (hP : own_P n1 l1 vs) (O0 : OldL Z n0 h0) (S0 : Sta Z Z.heap "java/lang/String" "COMPACT_STRINGS" "Z" (.int z0)) (hz : ¬ z0 = (0 : Int32)) :
    MetFree l (⟨"java/lang/AbstractStringBuilder", "append", "(Ljava/lang/String;)Ljava/lang/AbstractStringBuilder;"⟩ : MethodName) (head1 (Jvm.Cond.code (⟨"java/lang/AbstractStringBuilder", "append", "(Ljava/lang/String;)Ljava/lang/AbstractStringBuilder;"⟩ : MethodName) jdk_68_method_22_code 3 (some (.object "java/lang/AbstractStringBuilder")) :: ws) ({ frames := 3, cells := 0, slots := 0, locals := 47 } : Room)) (fun a U => a = #[(.ref a1), (.ref b1)] ∧ Z.Warmed39 U.vm ∧ U.heap = h0) (fun _ _ _ _ _ => True) (fun _ U o U' => ∃ v L, o = .returned v ∧ Qaa Z a1 d1 kd vs vd n1 l1 h0 n0 v U'.heap L ∧ FrameEnd U o U' L ({ frames := 3, cells := 0, slots := 0, locals := 47 } : Room).cells ({ frames := 3, cells := 0, slots := 0, locals := 47 } : Room).slots) := by
  refine MetFree.of_bodySF (plainFor_of_name pn_java_lang_AbstractStringBuilder) hisR ?_
  intro p e s m args below meth c s₁ Bd hml0 hP hK
  obtain ⟨rfl, hZ, hh⟩ := hP
  have hx := Bd.exec
  have hby := Bd.bytes
  have hml : c.maxLocals = 3 := hml0
  have hown : s.vm.findClass "java/lang/AbstractStringBuilder" = some m.cls := findClass_of_methodNamed Bd.named
  have hnm := (name_of_methodNamed Bd.named Bd.method).1
  have X0 : Stand p l e ({ frames := 3, cells := 0, slots := 0, locals := 47 } : Room) s m #[(.ref a1), (.ref b1)] below meth c s₁ [] 0 0 := Stand.of_body Bd
  have e0 : s₁.heap = h0 := by rw [← hh, Bd.state]; rfl
  have N0 := Fr.nil n0
  have pre0 : ∀ t, Steps p.tables e below (s₁.setTop (mkF m 0 #[.val (.ref a1), .val (.ref b1), .unset] [])) t → Steps p.tables e below (s₁.setTop (entryFrame m #[(.ref a1), (.ref b1)] 3)) t := fun t kt => castTop (ef_rmAa m a1 b1) kt
  have pre21 : ∀ t, Steps p.tables e below (s₁.setTop (mkF m 10 #[.val (.ref a1), .val (.ref b1), .unset] [(.ref b1)])) t → Steps p.tables e below (s₁.setTop (entryFrame m #[(.ref a1), (.ref b1)] 3)) t := fun t kt => pre0 t (by
    refine XS.aloadN X0.here hx rfl (hb hby d11_0) rfl rfl ?_
    show Steps p.tables e below (s₁.setTop (mkF m 1 #[.val (.ref a1), .val (.ref b1), .unset] [(.ref b1)])) _
    refine XS.ifnonnullYes X0.here hx rfl (pc0 := 1) (pc' := 9) rfl (hb hby d11_1) rfl (by decide) (by decide) ?_
    show Steps p.tables e below (s₁.setTop (mkF m 9 #[.val (.ref a1), .val (.ref b1), .unset] [])) _
    refine XS.aloadN X0.here hx rfl (hb hby d11_9) rfl rfl ?_
    show Steps p.tables e below (s₁.setTop (mkF m 10 #[.val (.ref a1), .val (.ref b1), .unset] [(.ref b1)])) _
    exact kt)
  obtain ⟨cq22, kq22, q22a, q22b, q22c⟩ := isOf hZ e0 (E2)
  obtain ⟨_, _, ⟨T22, L22, k22, n22⟩, -, X22, ⟨Lc22, hQ22, l22, y22, z22⟩, st22⟩ := X0.virtualBack hx (y := (⟨"java/lang/String", "length", "()I"⟩ : MethodName)) (z := (⟨"java/lang/String", "length", "()I"⟩ : MethodName)) hown (mvT hZ (hw _ (List.mem_of_getElem? (i := 78) rfl))) (mvT hZ (hw _ (List.mem_of_getElem? (i := 79) rfl))) (notFace_of_selects (args := #[]) (mvT hZ (hw _ (List.mem_of_getElem? (i := 81) rfl)))) (mvT hZ (hw _ (List.mem_of_getElem? (i := 81) rfl))) (mvT hZ (hw _ (List.mem_of_getElem? (i := 80) rfl))) (by decide) (backOf (W := 0) (rmLs l Z a0 hw [] b1 c1 _ _ z0 _ h0 n0 Z0 E2 F4 F5 V2 O0 S0 hz) hZ (hw _ (List.mem_of_getElem? (i := 82) rfl)) (hw _ (List.mem_of_getElem? (i := 6) rfl)) (by decide) (by decide)) q22a q22c (g := (mkF m 10 #[.val (.ref a1), .val (.ref b1), .unset] [(.ref b1)])) rfl (by rw [hml]; rfl) (Steps.refl _) (argsL := []) (rest := []) (lenOf pd__28_29I rfl) rfl (by show 2 * 0 + _ ≤ _; exact Nat.le_of_eq rfl) (hb hby d11_10) (fun _ _ => ⟨rfl, e0, (by decide : 0 + 0 ≤ _), (by decide : 0 + 0 ≤ _)⟩)
  dsimp only [Pt.U, Pt.locs, Pt.cells, Pt.slots] at X22 l22 y22 z22 st22 hQ22
  subst l22 y22 z22
  obtain ⟨rfl, N22q, e22q⟩ := hQ22
  have N22 := Fr.app N0 N22q
  have pre23 : ∀ t, Steps p.tables e below (T22.setTop (mkF m 13 #[.val (.ref a1), .val (.ref b1), .unset] [(.int l1)])) t → Steps p.tables e below (s₁.setTop (entryFrame m #[(.ref a1), (.ref b1)] 3)) t := fun t kt => pre21 t (st22.trans kt)
  have pre24 : ∀ t, Steps p.tables e below (T22.setTop (mkF m 16 #[.val (.ref a1), .val (.ref b1), .val (.int l1)] [(.ref a1), (.ref a1)])) t → Steps p.tables e below (s₁.setTop (entryFrame m #[(.ref a1), (.ref b1)] 3)) t := fun t kt => pre23 t (by
    refine XS.istoreN X22.here hx rfl (hb hby d11_13) rfl (l' := #[.val (.ref a1), .val (.ref b1), .val (.int l1)]) rfl ?_
    show Steps p.tables e below (T22.setTop (mkF m 14 #[.val (.ref a1), .val (.ref b1), .val (.int l1)] [])) _
    refine XS.aloadN X22.here hx rfl (hb hby d11_14) rfl rfl ?_
    show Steps p.tables e below (T22.setTop (mkF m 15 #[.val (.ref a1), .val (.ref b1), .val (.int l1)] [(.ref a1)])) _
    refine XS.aloadN X22.here hx rfl (hb hby d11_15) rfl rfl ?_
    show Steps p.tables e below (T22.setTop (mkF m 16 #[.val (.ref a1), .val (.ref b1), .val (.int l1)] [(.ref a1), (.ref a1)])) _
    exact kt)
  obtain ⟨T25, X25, e25, st25⟩ := getF X22 hx hZ hown (host := "") (Or.inl (hw _ (List.mem_of_getElem? (i := 89) rfl))) Via.refl e22q F3 (g := (mkF m 16 #[.val (.ref a1), .val (.ref b1), .val (.int l1)] [(.ref a1), (.ref a1)])) rfl rfl (hb hby d11_16)
  have pre26 : ∀ t, Steps p.tables e below (T25.setTop (mkF m 19 #[.val (.ref a1), .val (.ref b1), .val (.int l1)] [(.int n1), (.ref a1)])) t → Steps p.tables e below (s₁.setTop (entryFrame m #[(.ref a1), (.ref b1)] 3)) t := fun t kt => pre24 t (st25 _ kt)
  have pre27 : ∀ t, Steps p.tables e below (T25.setTop (mkF m 21 #[.val (.ref a1), .val (.ref b1), .val (.int l1)] [(.int (n1 + l1)), (.ref a1)])) t → Steps p.tables e below (s₁.setTop (entryFrame m #[(.ref a1), (.ref b1)] 3)) t := fun t kt => pre26 t (by
    refine XS.iloadN X25.here hx rfl (hb hby d11_19) rfl ?_
    show Steps p.tables e below (T25.setTop (mkF m 20 #[.val (.ref a1), .val (.ref b1), .val (.int l1)] [(.int l1), (.int n1), (.ref a1)])) _
    refine XS.iadd X25.here hx rfl (hb hby d11_20) rfl ?_
    show Steps p.tables e below (T25.setTop (mkF m 21 #[.val (.ref a1), .val (.ref b1), .val (.int l1)] [(.int (n1 + l1)), (.ref a1)])) _
    exact kt)
  obtain ⟨cq28, kq28, q28a, q28b, q28c⟩ := isOf hZ e25 (E1)
  obtain ⟨_, _, ⟨T28, L28, k28, n28⟩, -, X28, ⟨Lc28, hQ28, l28, y28, z28⟩, st28⟩ := X25.virtualBack hx (y := (⟨"java/lang/AbstractStringBuilder", "ensureCapacityInternal", "(I)V"⟩ : MethodName)) (z := (⟨"java/lang/AbstractStringBuilder", "ensureCapacityInternal", "(I)V"⟩ : MethodName)) hown (mvT hZ (hw _ (List.mem_of_getElem? (i := 91) rfl))) (mvT hZ (own_declares (hw _ (List.mem_of_getElem? (i := 92) rfl)) (hw _ (List.mem_of_getElem? (i := 95) rfl)))) (notFace_of_selects (args := #[]) (mvT hZ (hw _ (List.mem_of_getElem? (i := 94) rfl)))) (mvT hZ (hw _ (List.mem_of_getElem? (i := 94) rfl))) (mvT hZ (hw _ (List.mem_of_getElem? (i := 92) rfl))) (by decide) (backOf (W := 0) (rmEs l Z a0 hw [] a1 d1 _ _ (n1 + l1) h0 n0 Z0 F1 F2 V1 hP.2.2.2.2) hZ (hw _ (List.mem_of_getElem? (i := 95) rfl)) (hw _ (List.mem_of_getElem? (i := 60) rfl)) (by decide) (by decide)) q28a q28c (g := (mkF m 21 #[.val (.ref a1), .val (.ref b1), .val (.int l1)] [(.int (n1 + l1)), (.ref a1)])) rfl (by rw [hml]; rfl) (Steps.refl _) (argsL := [(.int (n1 + l1))]) (rest := []) (lenOf pd__28I_29V rfl) rfl (by show 2 * 0 + _ ≤ _; exact Nat.le_of_eq rfl) (hb hby d11_21) (fun _ _ => ⟨rfl, e25, (by decide : 0 + 0 ≤ _), (by decide : 0 + 0 ≤ _)⟩)
  dsimp only [Pt.U, Pt.locs, Pt.cells, Pt.slots] at X28 l28 y28 z28 st28 hQ28
  subst l28 y28 z28
  obtain ⟨rfl, N28q, e28q⟩ := hQ28
  have N28 := Fr.app N22 N28q
  have pre29 : ∀ t, Steps p.tables e below (T28.setTop (mkF m 24 #[.val (.ref a1), .val (.ref b1), .val (.int l1)] [])) t → Steps p.tables e below (s₁.setTop (entryFrame m #[(.ref a1), (.ref b1)] 3)) t := fun t kt => pre27 t (st28.trans kt)
  have pre30 : ∀ t, Steps p.tables e below (T28.setTop (mkF m 26 #[.val (.ref a1), .val (.ref b1), .val (.int l1)] [(.ref a1), (.ref a1)])) t → Steps p.tables e below (s₁.setTop (entryFrame m #[(.ref a1), (.ref b1)] 3)) t := fun t kt => pre29 t (by
    refine XS.aloadN X28.here hx rfl (hb hby d11_24) rfl rfl ?_
    show Steps p.tables e below (T28.setTop (mkF m 25 #[.val (.ref a1), .val (.ref b1), .val (.int l1)] [(.ref a1)])) _
    refine XS.aloadN X28.here hx rfl (hb hby d11_25) rfl rfl ?_
    show Steps p.tables e below (T28.setTop (mkF m 26 #[.val (.ref a1), .val (.ref b1), .val (.int l1)] [(.ref a1), (.ref a1)])) _
    exact kt)
  obtain ⟨T31, X31, e31, st31⟩ := getF X28 hx hZ hown (host := "") (Or.inl (hw _ (List.mem_of_getElem? (i := 89) rfl))) Via.refl e28q F3 (g := (mkF m 26 #[.val (.ref a1), .val (.ref b1), .val (.int l1)] [(.ref a1), (.ref a1)])) rfl rfl (hb hby d11_26)
  have pre32 : ∀ t, Steps p.tables e below (T31.setTop (mkF m 29 #[.val (.ref a1), .val (.ref b1), .val (.int l1)] [(.int n1), (.ref a1)])) t → Steps p.tables e below (s₁.setTop (entryFrame m #[(.ref a1), (.ref b1)] 3)) t := fun t kt => pre30 t (st31 _ kt)
  have pre33 : ∀ t, Steps p.tables e below (T31.setTop (mkF m 30 #[.val (.ref a1), .val (.ref b1), .val (.int l1)] [(.ref b1), (.int n1), (.ref a1)])) t → Steps p.tables e below (s₁.setTop (entryFrame m #[(.ref a1), (.ref b1)] 3)) t := fun t kt => pre32 t (by
    refine XS.aloadN X31.here hx rfl (hb hby d11_29) rfl rfl ?_
    show Steps p.tables e below (T31.setTop (mkF m 30 #[.val (.ref a1), .val (.ref b1), .val (.int l1)] [(.ref b1), (.int n1), (.ref a1)])) _
    exact kt)
  obtain ⟨cq34, kq34, q34a, q34b, q34c⟩ := isOf hZ e31 (E1)
  obtain ⟨_, _, ⟨T34, L34, k34, n34⟩, -, X34, ⟨Lc34, hQ34, l34, y34, z34⟩, st34⟩ := X31.virtualBack hx (y := (⟨"java/lang/AbstractStringBuilder", "putStringAt", "(ILjava/lang/String;)V"⟩ : MethodName)) (z := (⟨"java/lang/AbstractStringBuilder", "putStringAt", "(ILjava/lang/String;)V"⟩ : MethodName)) hown (mvT hZ (hw _ (List.mem_of_getElem? (i := 96) rfl))) (mvT hZ (own_declares (hw _ (List.mem_of_getElem? (i := 97) rfl)) (hw _ (List.mem_of_getElem? (i := 100) rfl)))) (notFace_of_selects (args := #[]) (mvT hZ (hw _ (List.mem_of_getElem? (i := 99) rfl)))) (mvT hZ (hw _ (List.mem_of_getElem? (i := 99) rfl))) (mvT hZ (hw _ (List.mem_of_getElem? (i := 97) rfl))) (by decide) (backOf (W := 0) (rmPs l Z a0 hw [] a1 b1 c1 d1 _ _ _ _ n1 l1 z0 h0 n0 Z0 E1 F1 F2 E2 F4 F5 V2 hP V1 hv g1 O0 S0 hz) hZ (hw _ (List.mem_of_getElem? (i := 100) rfl)) (hw _ (List.mem_of_getElem? (i := 60) rfl)) (by decide) (by decide)) q34a q34c (g := (mkF m 30 #[.val (.ref a1), .val (.ref b1), .val (.int l1)] [(.ref b1), (.int n1), (.ref a1)])) rfl (by rw [hml]; rfl) (Steps.refl _) (argsL := [(.int n1), (.ref b1)]) (rest := []) (lenOf pd__28ILjava_2flang_2fString_3b_29V rfl) rfl (by show 2 * 0 + _ ≤ _; exact Nat.le_of_eq rfl) (hb hby d11_30) (fun _ _ => ⟨rfl, e31, (by decide : 0 + 0 ≤ _), (by decide : 0 + 0 ≤ _)⟩)
  dsimp only [Pt.U, Pt.locs, Pt.cells, Pt.slots] at X34 l34 y34 z34 st34 hQ34
  subst l34 y34 z34
  obtain ⟨rfl, N34q, K34, Va34⟩ := hQ34
  have N34 := Fr.app N28 N34q
  have f35 := (E2).keep K34
  have f36 := (O0).keep K34 (own_all1 g1)
  have f37 := ((Keep.refl h0 [a1, d1])).trans K34 (own_all1 (Or.inl (List.mem_cons_of_mem _ (List.mem_singleton.mpr rfl))))
  have f38 := (E1).keep K34
  have f39 := (F1).keep K34 (own_notin1 (Ne.symm ne1))
  have f40 := (F2).keep K34 (own_notin1 (Ne.symm ne1))
  have f41 := (F3).keep K34 (own_notin1 (Ne.symm ne1))
  have Zf42 : n0 ≤ T34.heap.size := Nat.le_trans Z0 (K34).1
  have pre43 : ∀ t, Steps p.tables e below (T34.setTop (mkF m 33 #[.val (.ref a1), .val (.ref b1), .val (.int l1)] [])) t → Steps p.tables e below (s₁.setTop (entryFrame m #[(.ref a1), (.ref b1)] 3)) t := fun t kt => pre33 t (st34.trans kt)
  have pre44 : ∀ t, Steps p.tables e below (T34.setTop (mkF m 35 #[.val (.ref a1), .val (.ref b1), .val (.int l1)] [(.ref a1), (.ref a1)])) t → Steps p.tables e below (s₁.setTop (entryFrame m #[(.ref a1), (.ref b1)] 3)) t := fun t kt => pre43 t (by
    refine XS.aloadN X34.here hx rfl (hb hby d11_33) rfl rfl ?_
    show Steps p.tables e below (T34.setTop (mkF m 34 #[.val (.ref a1), .val (.ref b1), .val (.int l1)] [(.ref a1)])) _
    refine XS.dup X34.here hx rfl (hb hby d11_34) rfl rfl ?_
    show Steps p.tables e below (T34.setTop (mkF m 35 #[.val (.ref a1), .val (.ref b1), .val (.int l1)] [(.ref a1), (.ref a1)])) _
    exact kt)
  obtain ⟨T45, X45, e45, st45⟩ := getF X34 hx hZ hown (host := "") (Or.inl (hw _ (List.mem_of_getElem? (i := 89) rfl))) Via.refl rfl f41 (g := (mkF m 35 #[.val (.ref a1), .val (.ref b1), .val (.int l1)] [(.ref a1), (.ref a1)])) rfl rfl (hb hby d11_35)
  have pre46 : ∀ t, Steps p.tables e below (T45.setTop (mkF m 38 #[.val (.ref a1), .val (.ref b1), .val (.int l1)] [(.int n1), (.ref a1)])) t → Steps p.tables e below (s₁.setTop (entryFrame m #[(.ref a1), (.ref b1)] 3)) t := fun t kt => pre44 t (st45 _ kt)
  have pre47 : ∀ t, Steps p.tables e below (T45.setTop (mkF m 40 #[.val (.ref a1), .val (.ref b1), .val (.int l1)] [(.int (n1 + l1)), (.ref a1)])) t → Steps p.tables e below (s₁.setTop (entryFrame m #[(.ref a1), (.ref b1)] 3)) t := fun t kt => pre46 t (by
    refine XS.iloadN X45.here hx rfl (hb hby d11_38) rfl ?_
    show Steps p.tables e below (T45.setTop (mkF m 39 #[.val (.ref a1), .val (.ref b1), .val (.int l1)] [(.int l1), (.int n1), (.ref a1)])) _
    refine XS.iadd X45.here hx rfl (hb hby d11_39) rfl ?_
    show Steps p.tables e below (T45.setTop (mkF m 40 #[.val (.ref a1), .val (.ref b1), .val (.int l1)] [(.int (n1 + l1)), (.ref a1)])) _
    exact kt)
  obtain ⟨T48, h48, X48, e48, W48, st48⟩ := putF X45 hx hZ hown (host := "") (Or.inl (hw _ (List.mem_of_getElem? (i := 89) rfl))) Via.refl e45 f41 f38 (Or.inl (hw _ (List.mem_of_getElem? (i := 90) rfl))) (hw _ (List.mem_of_getElem? (i := 51) rfl)) (ty := .int) (by decide) rfl rfl (g := (mkF m 40 #[.val (.ref a1), .val (.ref b1), .val (.int l1)] [(.int (n1 + l1)), (.ref a1)])) rfl rfl (hb hby d11_40)
  have f49 := (f35).wr W48
  have f50 := (f36).wr W48 g0
  have f51 := (f37).wr W48 (Or.inl (List.mem_cons_self ..))
  have f52 := (f38).wr W48
  have f53 := (f39).other W48 (Or.inr (slot_ne (Or.inl (hw _ (List.mem_of_getElem? (i := 65) rfl))) (Or.inl (hw _ (List.mem_of_getElem? (i := 90) rfl))) (by decide) (t := (.array .byte)) (t' := .int) (by decide) (by decide)))
  have f54 := (f40).other W48 (Or.inr (slot_ne (Or.inl (hw _ (List.mem_of_getElem? (i := 67) rfl))) (Or.inl (hw _ (List.mem_of_getElem? (i := 90) rfl))) (by decide) (t := .byte) (t' := .int) (by decide) (by decide)))
  have f55 := (Va34).other W48 ne1
  have Fw48 := (f41).same W48
  have Nf56 := Fr.snoc X48 N34 g0
  have Zf57 : n0 ≤ h48.size := Nat.le_trans Zf42 (Keep.of_wr W48).1
  have pre58 : ∀ t, Steps p.tables e below (T48.setTop (mkF m 43 #[.val (.ref a1), .val (.ref b1), .val (.int l1)] [])) t → Steps p.tables e below (s₁.setTop (entryFrame m #[(.ref a1), (.ref b1)] 3)) t := fun t kt => pre47 t (st48 _ kt)
  have pre59 : ∀ t, Steps p.tables e below (T48.setTop (mkF m 44 #[.val (.ref a1), .val (.ref b1), .val (.int l1)] [(.ref a1)])) t → Steps p.tables e below (s₁.setTop (entryFrame m #[(.ref a1), (.ref b1)] 3)) t := fun t kt => pre58 t (by
    refine XS.aloadN X48.here hx rfl (hb hby d11_43) rfl rfl ?_
    show Steps p.tables e below (T48.setTop (mkF m 44 #[.val (.ref a1), .val (.ref b1), .val (.int l1)] [(.ref a1)])) _
    exact kt)
  obtain ⟨fs, hr, hrun, hended, hW, hsame⟩ := X48.leave (v := (some (.ref a1))) (fun h => by rw [Bd.returns] at h; cases h)
  refine ⟨_, _, pre59 _ ?_, hrun, hended, _, _, rfl, ?_, ⟨_, rfl⟩, hW, hsame.mono (by decide) (by decide)⟩
  · exact retOut X48 hx Bd.returns rfl (Or.inr (Or.inr (Or.inr (Or.inr ⟨rfl, rfl, rfl⟩)))) (hb hby d11_44) hr
  · show Qaa Z a1 d1 kd vs vd n1 l1 h0 n0 _ T48.heap _
    rw [e48]
    exact ⟨rfl, Nf56, f51, f53, f54, Fw48, f55⟩
theorem ef_rmSa (m : MethodId) (x0 : Addr) (x1 : Addr) : entryFrame m #[(.ref x0), (.ref x1)] 2 = mkF m 0 #[.val (.ref x0), .val (.ref x1)] [] := by first | (simp [entryFrame, mkF, argsToLocals, Value.category]; done) | rfl
theorem pn_java_lang_StringBuilder : plainName "java/lang/StringBuilder" = true := by first | (simp [plainName, overriddenIn]; done) | decide +kernel
theorem d10_0 : decode jdk_67_method_7_code 0 = .ok (.aload_n 0, 1) := by decide +kernel
theorem d10_1 : decode jdk_67_method_7_code 1 = .ok (.aload_n 1, 1) := by decide +kernel
theorem pd__28Ljava_2flang_2fString_3b_29Ljava_2flang_2fAbstractStringBuilder_3b : parseMethodDescriptor "(Ljava/lang/String;)Ljava/lang/AbstractStringBuilder;" = some ⟨[(.object "java/lang/String")], some (.object "java/lang/AbstractStringBuilder")⟩ := by decide +kernel
theorem d10_2 : decode jdk_67_method_7_code 2 = .ok (.invokespecial 29, 3) := by decide +kernel
theorem d10_5 : decode jdk_67_method_7_code 5 = .ok (.pop, 1) := by decide +kernel
theorem d10_6 : decode jdk_67_method_7_code 6 = .ok (.aload_n 0, 1) := by decide +kernel
theorem d10_7 : decode jdk_67_method_7_code 7 = .ok (.areturn, 1) := by decide +kernel
set_option maxRecDepth 65536 in
set_option maxHeartbeats 40000000 in
theorem rmSa (l : Launch) (Z : State) (a0 : Array Value) (hw : ∀ d ∈ tables_1, d.before a0 Z = true) (ws : List Jvm.Cond) (a1 b1 c1 d1 : Addr) (kc kd : ClassId) (vs vd : List Value) (n1 l1 z0 : Int32) (h0 : Heap) (n0 : Nat) (Z0 : n0 ≤ h0.size) (E1 : Exa Z h0 a1 "java/lang/StringBuilder") (g0 : n0 ≤ a1) (F1 : Fld Z h0 a1 "java/lang/AbstractStringBuilder" "value" "[B" (.ref d1)) (F2 : Fld Z h0 a1 "java/lang/AbstractStringBuilder" "coder" "B" (.int (0 : Int32))) (F3 : Fld Z h0 a1 "java/lang/AbstractStringBuilder" "count" "I" (.int n1)) (V1 : Arv Z h0 d1 kd .byte (16 : Int32) vd (.int (0 : Int32))) (hv : vd.length = 16) (g1 : n0 ≤ d1) (ne1 : d1 ≠ a1) (ne2 : b1 ≠ a1) (ne3 : c1 ≠ a1) (E2 : Exa Z h0 b1 "java/lang/String") (F4 : Fld Z h0 b1 "java/lang/String" "value" "[B" (.ref c1)) (F5 : Fld Z h0 b1 "java/lang/String" "coder" "B" (.int (0 : Int32))) (V2 : Arv Z h0 c1 kc .byte l1 vs (.int (0 : Int32))) (hP : own_P n1 l1 vs) (O0 : OldL Z n0 h0) (S0 : Sta Z Z.heap "java/lang/String" "COMPACT_STRINGS" "Z" (.int z0)) (hz : ¬ z0 = (0 : Int32)) :
    MetFree l (⟨"java/lang/StringBuilder", "append", "(Ljava/lang/String;)Ljava/lang/StringBuilder;"⟩ : MethodName) (head1 (Jvm.Cond.code (⟨"java/lang/StringBuilder", "append", "(Ljava/lang/String;)Ljava/lang/StringBuilder;"⟩ : MethodName) jdk_67_method_7_code 2 (some (.object "java/lang/StringBuilder")) :: ws) ({ frames := 4, cells := 0, slots := 0, locals := 61 } : Room)) (fun a U => a = #[(.ref a1), (.ref b1)] ∧ Z.Warmed39 U.vm ∧ U.heap = h0) (fun _ _ _ _ _ => True) (fun _ U o U' => ∃ v L, o = .returned v ∧ Qaa Z a1 d1 kd vs vd n1 l1 h0 n0 v U'.heap L ∧ FrameEnd U o U' L ({ frames := 4, cells := 0, slots := 0, locals := 61 } : Room).cells ({ frames := 4, cells := 0, slots := 0, locals := 61 } : Room).slots) := by
  refine MetFree.of_bodySF (plainFor_of_name pn_java_lang_StringBuilder) hisR ?_
  intro p e s m args below meth c s₁ Bd hml0 hP hK
  obtain ⟨rfl, hZ, hh⟩ := hP
  have hx := Bd.exec
  have hby := Bd.bytes
  have hml : c.maxLocals = 2 := hml0
  have hown : s.vm.findClass "java/lang/StringBuilder" = some m.cls := findClass_of_methodNamed Bd.named
  have hnm := (name_of_methodNamed Bd.named Bd.method).1
  have X0 : Stand p l e ({ frames := 4, cells := 0, slots := 0, locals := 61 } : Room) s m #[(.ref a1), (.ref b1)] below meth c s₁ [] 0 0 := Stand.of_body Bd
  have e0 : s₁.heap = h0 := by rw [← hh, Bd.state]; rfl
  have N0 := Fr.nil n0
  have pre0 : ∀ t, Steps p.tables e below (s₁.setTop (mkF m 0 #[.val (.ref a1), .val (.ref b1)] [])) t → Steps p.tables e below (s₁.setTop (entryFrame m #[(.ref a1), (.ref b1)] 2)) t := fun t kt => castTop (ef_rmSa m a1 b1) kt
  have pre21 : ∀ t, Steps p.tables e below (s₁.setTop (mkF m 2 #[.val (.ref a1), .val (.ref b1)] [(.ref b1), (.ref a1)])) t → Steps p.tables e below (s₁.setTop (entryFrame m #[(.ref a1), (.ref b1)] 2)) t := fun t kt => pre0 t (by
    refine XS.aloadN X0.here hx rfl (hb hby d10_0) rfl rfl ?_
    show Steps p.tables e below (s₁.setTop (mkF m 1 #[.val (.ref a1), .val (.ref b1)] [(.ref a1)])) _
    refine XS.aloadN X0.here hx rfl (hb hby d10_1) rfl rfl ?_
    show Steps p.tables e below (s₁.setTop (mkF m 2 #[.val (.ref a1), .val (.ref b1)] [(.ref b1), (.ref a1)])) _
    exact kt)
  obtain ⟨_, _, ⟨T22, L22, k22, n22⟩, -, X22, ⟨Lc22, hQ22, l22, y22, z22⟩, st22⟩ := superBack X0 hx hZ (y := (⟨"java/lang/AbstractStringBuilder", "append", "(Ljava/lang/String;)Ljava/lang/AbstractStringBuilder;"⟩ : MethodName)) hown (hw _ (List.mem_of_getElem? (i := 73) rfl)) (own_same (hw _ (List.mem_of_getElem? (i := 74) rfl)) (hw _ (List.mem_of_getElem? (i := 131) rfl)) (hw _ (List.mem_of_getElem? (i := 132) rfl)) rfl (by decide)) (hw _ (List.mem_of_getElem? (i := 74) rfl)) (hw _ (List.mem_of_getElem? (i := 75) rfl)) (by decide) (backOf (W := 0) (rmAa l Z a0 hw [] a1 b1 c1 d1 _ _ _ _ n1 l1 z0 h0 n0 Z0 E1 g0 F1 F2 F3 V1 hv g1 ne1 ne2 ne3 E2 F4 F5 V2 hP O0 S0 hz) hZ (hw _ (List.mem_of_getElem? (i := 77) rfl)) (hw _ (List.mem_of_getElem? (i := 60) rfl)) (by decide) (by decide)) e0 (Ins.self E1) (g := (mkF m 2 #[.val (.ref a1), .val (.ref b1)] [(.ref b1), (.ref a1)])) rfl (by rw [hml]; rfl) (hw _ (List.mem_of_getElem? (i := 77) rfl)) (argsL := [(.ref b1)]) (rest := []) (lenOf pd__28Ljava_2flang_2fString_3b_29Ljava_2flang_2fAbstractStringBuilder_3b rfl) rfl (by show 2 * 0 + _ ≤ _; exact Nat.le_of_eq rfl) (hb hby d10_2) (fun _ _ => ⟨rfl, e0, (by decide : 0 + 0 ≤ _), (by decide : 0 + 0 ≤ _)⟩)
  dsimp only [Pt.U, Pt.locs, Pt.cells, Pt.slots] at X22 l22 y22 z22 st22 hQ22
  subst l22 y22 z22
  obtain ⟨rfl, N22q, K22, Fv22, Fc22, Fn22, Va22⟩ := hQ22
  have N22 := Fr.app N0 N22q
  have f23 := (E2).keep K22
  have f24 := (O0).keep K22 (own_all2 g0 g1)
  have f25 := ((Keep.refl h0 [a1, d1])).trans K22 (own_all2 (Or.inl (List.mem_cons_self ..)) (Or.inl (List.mem_cons_of_mem _ (List.mem_singleton.mpr rfl))))
  have f26 := (E1).keep K22
  have Zf27 : n0 ≤ T22.heap.size := Nat.le_trans Z0 (K22).1
  have pre28 : ∀ t, Steps p.tables e below (T22.setTop (mkF m 5 #[.val (.ref a1), .val (.ref b1)] [(.ref a1)])) t → Steps p.tables e below (s₁.setTop (entryFrame m #[(.ref a1), (.ref b1)] 2)) t := fun t kt => pre21 t (st22.trans kt)
  have pre29 : ∀ t, Steps p.tables e below (T22.setTop (mkF m 7 #[.val (.ref a1), .val (.ref b1)] [(.ref a1)])) t → Steps p.tables e below (s₁.setTop (entryFrame m #[(.ref a1), (.ref b1)] 2)) t := fun t kt => pre28 t (by
    refine XS.pop X22.here hx rfl (hb hby d10_5) rfl rfl ?_
    show Steps p.tables e below (T22.setTop (mkF m 6 #[.val (.ref a1), .val (.ref b1)] [])) _
    refine XS.aloadN X22.here hx rfl (hb hby d10_6) rfl rfl ?_
    show Steps p.tables e below (T22.setTop (mkF m 7 #[.val (.ref a1), .val (.ref b1)] [(.ref a1)])) _
    exact kt)
  obtain ⟨fs, hr, hrun, hended, hW, hsame⟩ := X22.leave (v := (some (.ref a1))) (fun h => by rw [Bd.returns] at h; cases h)
  refine ⟨_, _, pre29 _ ?_, hrun, hended, _, _, rfl, ?_, ⟨_, rfl⟩, hW, hsame.mono (by decide) (by decide)⟩
  · exact retOut X22 hx Bd.returns rfl (Or.inr (Or.inr (Or.inr (Or.inr ⟨rfl, rfl, rfl⟩)))) (hb hby d10_7) hr
  · show Qaa Z a1 d1 kd vs vd n1 l1 h0 n0 _ T22.heap _
    exact ⟨rfl, N22, f25, Fv22, Fc22, Fn22, Va22⟩
def QSI (Z : State) (a1 : Addr) (h0 : Heap) (n0 : Nat) (v : Option Value) (h : Heap) (L : List Loc) : Prop := v = none ∧ Fr n0 L ∧ Keep h0 h [a1] ∧ ∃ (d : Addr) (kd : ClassId), n0 ≤ d ∧ h0.size ≤ d ∧ Fld Z h a1 "java/lang/AbstractStringBuilder" "value" "[B" (.ref d) ∧ Fld Z h a1 "java/lang/AbstractStringBuilder" "coder" "B" (.int (0 : Int32)) ∧ Fld Z h a1 "java/lang/AbstractStringBuilder" "count" "I" (.int (0 : Int32)) ∧ Arv Z h d kd .byte (16 : Int32) [(.int (0 : Int32)), (.int (0 : Int32)), (.int (0 : Int32)), (.int (0 : Int32)), (.int (0 : Int32)), (.int (0 : Int32)), (.int (0 : Int32)), (.int (0 : Int32)), (.int (0 : Int32)), (.int (0 : Int32)), (.int (0 : Int32)), (.int (0 : Int32)), (.int (0 : Int32)), (.int (0 : Int32)), (.int (0 : Int32)), (.int (0 : Int32))] (.int (0 : Int32))
theorem ef_rmAI (m : MethodId) (x0 : Addr) (x1 : Int32) : entryFrame m #[(.ref x0), (.int x1)] 2 = mkF m 0 #[.val (.ref x0), .val (.int x1)] [] := by first | (simp [entryFrame, mkF, argsToLocals, Value.category]; done) | rfl
theorem d9_0 : decode jdk_68_method_2_code 0 = .ok (.aload_n 0, 1) := by decide +kernel
theorem d9_1 : decode jdk_68_method_2_code 1 = .ok (.invokespecial 3, 3) := by decide +kernel
theorem d9_4 : decode jdk_68_method_2_code 4 = .ok (.getstatic 18, 3) := by decide +kernel
theorem d9_7 : decode jdk_68_method_2_code 7 = .ok (.ifCond .eq 18, 3) := by decide +kernel
theorem d9_10 : decode jdk_68_method_2_code 10 = .ok (.aload_n 0, 1) := by decide +kernel
theorem d9_11 : decode jdk_68_method_2_code 11 = .ok (.iload_n 1, 1) := by decide +kernel
theorem d9_12 : decode jdk_68_method_2_code 12 = .ok (.newarray .byte, 2) := by decide +kernel
theorem d9_14 : decode jdk_68_method_2_code 14 = .ok (.putfield 15, 3) := by decide +kernel
theorem d9_17 : decode jdk_68_method_2_code 17 = .ok (.aload_n 0, 1) := by decide +kernel
theorem d9_18 : decode jdk_68_method_2_code 18 = .ok (.iconst 0, 1) := by decide +kernel
theorem d9_19 : decode jdk_68_method_2_code 19 = .ok (.putfield 22, 3) := by decide +kernel
theorem d9_22 : decode jdk_68_method_2_code 22 = .ok (.goto 16, 3) := by decide +kernel
theorem d9_38 : decode jdk_68_method_2_code 38 = .ok (.return_, 1) := by decide +kernel
set_option maxRecDepth 65536 in
set_option maxHeartbeats 40000000 in
theorem rmAI (l : Launch) (Z : State) (a0 : Array Value) (hw : ∀ d ∈ tables_1, d.before a0 Z = true) (ws : List Jvm.Cond) (a1 : Addr) (u1 u2 : Value) (z0 : Int32) (h0 : Heap) (n0 : Nat) (Z0 : n0 ≤ h0.size) (E1 : Exa Z h0 a1 "java/lang/StringBuilder") (g1 : n0 ≤ a1) (F1 : Fld Z h0 a1 "java/lang/AbstractStringBuilder" "value" "[B" u1) (F2 : Fld Z h0 a1 "java/lang/AbstractStringBuilder" "coder" "B" u2) (F3 : Fld Z h0 a1 "java/lang/AbstractStringBuilder" "count" "I" (.int (0 : Int32))) (O0 : OldL Z n0 h0) (S0 : Sta Z Z.heap "java/lang/String" "COMPACT_STRINGS" "Z" (.int z0)) (hz : ¬ z0 = (0 : Int32)) :
    MetFree l (⟨"java/lang/AbstractStringBuilder", "<init>", "(I)V"⟩ : MethodName) (head1 (Jvm.Cond.code (⟨"java/lang/AbstractStringBuilder", "<init>", "(I)V"⟩ : MethodName) jdk_68_method_2_code 2 none :: ws) ({ frames := 1, cells := 1, slots := 16, locals := 12 } : Room)) (fun a U => a = #[(.ref a1), (.int (16 : Int32))] ∧ Z.Warmed39 U.vm ∧ U.heap = h0) (fun _ _ _ _ _ => True) (fun _ U o U' => ∃ v L, o = .returned v ∧ QSI Z a1 h0 n0 v U'.heap L ∧ FrameEnd U o U' L ({ frames := 1, cells := 1, slots := 16, locals := 12 } : Room).cells ({ frames := 1, cells := 1, slots := 16, locals := 12 } : Room).slots) := by
  refine MetFree.of_bodySF (plainFor_of_name pn_java_lang_AbstractStringBuilder) hisR ?_
  intro p e s m args below meth c s₁ Bd hml0 hP hK
  obtain ⟨rfl, hZ, hh⟩ := hP
  have hx := Bd.exec
  have hby := Bd.bytes
  have hml : c.maxLocals = 2 := hml0
  have hown : s.vm.findClass "java/lang/AbstractStringBuilder" = some m.cls := findClass_of_methodNamed Bd.named
  have hnm := (name_of_methodNamed Bd.named Bd.method).1
  have X0 : Stand p l e ({ frames := 1, cells := 1, slots := 16, locals := 12 } : Room) s m #[(.ref a1), (.int (16 : Int32))] below meth c s₁ [] 0 0 := Stand.of_body Bd
  have e0 : s₁.heap = h0 := by rw [← hh, Bd.state]; rfl
  have N0 := Fr.nil n0
  have pre0 : ∀ t, Steps p.tables e below (s₁.setTop (mkF m 0 #[.val (.ref a1), .val (.int (16 : Int32))] [])) t → Steps p.tables e below (s₁.setTop (entryFrame m #[(.ref a1), (.int (16 : Int32))] 2)) t := fun t kt => castTop (ef_rmAI m a1 (16 : Int32)) kt
  have pre21 : ∀ t, Steps p.tables e below (s₁.setTop (mkF m 1 #[.val (.ref a1), .val (.int (16 : Int32))] [(.ref a1)])) t → Steps p.tables e below (s₁.setTop (entryFrame m #[(.ref a1), (.int (16 : Int32))] 2)) t := fun t kt => pre0 t (by
    refine XS.aloadN X0.here hx rfl (hb hby d9_0) rfl rfl ?_
    show Steps p.tables e below (s₁.setTop (mkF m 1 #[.val (.ref a1), .val (.int (16 : Int32))] [(.ref a1)])) _
    exact kt)
  obtain ⟨T22, X22, e22, st22⟩ := initO X0 hx hZ hown (hw _ (List.mem_of_getElem? (i := 62) rfl)) (hw _ (List.mem_of_getElem? (i := 16) rfl)) (hw _ (List.mem_of_getElem? (i := 17) rfl)) e0 (g := (mkF m 1 #[.val (.ref a1), .val (.int (16 : Int32))] [(.ref a1)])) rfl (by rw [hml]; rfl) rfl (hb hby d9_1) (by decide) (W := 0) (by show 2 * 0 + _ ≤ _; exact Nat.le_of_eq rfl) (by decide)
  have pre23 : ∀ t, Steps p.tables e below (T22.setTop (mkF m 4 #[.val (.ref a1), .val (.int (16 : Int32))] [])) t → Steps p.tables e below (s₁.setTop (entryFrame m #[(.ref a1), (.int (16 : Int32))] 2)) t := fun t kt => pre21 t (st22 _ kt)
  obtain ⟨T24, X24, e24, st24⟩ := getS2 X22 hx hZ hown (host := "") (Or.inl (hw _ (List.mem_of_getElem? (i := 63) rfl))) Via.refl e22 (S0.ext (O0).2) (g := (mkF m 4 #[.val (.ref a1), .val (.int (16 : Int32))] [])) rfl (hb hby d9_4)
  have pre25 : ∀ t, Steps p.tables e below (T24.setTop (mkF m 7 #[.val (.ref a1), .val (.int (16 : Int32))] [(.int z0)])) t → Steps p.tables e below (s₁.setTop (entryFrame m #[(.ref a1), (.int (16 : Int32))] 2)) t := fun t kt => pre23 t (st24 _ kt)
  have pre26 : ∀ t, Steps p.tables e below (T24.setTop (mkF m 12 #[.val (.ref a1), .val (.int (16 : Int32))] [(.int (16 : Int32)), (.ref a1)])) t → Steps p.tables e below (s₁.setTop (entryFrame m #[(.ref a1), (.int (16 : Int32))] 2)) t := fun t kt => pre25 t (by
    refine XS.ifNo X24.here hx rfl (hb hby d9_7) rfl ((if0 _ _).trans (feq (hz : ¬ (z0 = (0 : Int32)))).1) ?_
    show Steps p.tables e below (T24.setTop (mkF m 10 #[.val (.ref a1), .val (.int (16 : Int32))] [])) _
    refine XS.aloadN X24.here hx rfl (hb hby d9_10) rfl rfl ?_
    show Steps p.tables e below (T24.setTop (mkF m 11 #[.val (.ref a1), .val (.int (16 : Int32))] [(.ref a1)])) _
    refine XS.iloadN X24.here hx rfl (hb hby d9_11) rfl ?_
    show Steps p.tables e below (T24.setTop (mkF m 12 #[.val (.ref a1), .val (.int (16 : Int32))] [(.int (16 : Int32)), (.ref a1)])) _
    exact kt)
  obtain ⟨T27, h27, k27, X27, e27, E27, A27, st27⟩ := newP X24 hx hZ (hw _ (List.mem_of_getElem? (i := 19) rfl)) e24 (g := (mkF m 12 #[.val (.ref a1), .val (.int (16 : Int32))] [(.int (16 : Int32)), (.ref a1)])) rfl (hb hby d9_12) rfl (by decide) (cap := 16) (by decide) (by decide) (by decide) (by decide)
  obtain ⟨b27, g27⟩ : ∃ z, z = h0.size := ⟨_, rfl⟩
  rw [← g27] at A27 st27
  have szb27 : h0.size ≤ b27 := Nat.le_trans ((Keep.refl h0 [a1])).1 (Nat.le_of_eq g27.symm)
  have ne28 : a1 ≠ b27 := Nat.ne_of_lt (Nat.lt_of_lt_of_le (E1).lt (Nat.le_of_eq g27.symm))
  have gz29 : n0 ≤ b27 := Nat.le_trans Z0 (Nat.le_of_eq g27.symm)
  have f31 := ((Keep.refl h0 [a1])).ext E27
  have f32 := (O0).ext E27
  have f33 := (E1).ext E27
  have f34 := (F1).ext E27
  have f35 := (F2).ext E27
  have f36 := (F3).ext E27
  have Zf37 : n0 ≤ h27.size := Nat.le_trans Z0 E27.1
  have V27 : Arv Z h27 b27 k27 .byte (16 : Int32) [(.int (0 : Int32)), (.int (0 : Int32)), (.int (0 : Int32)), (.int (0 : Int32)), (.int (0 : Int32)), (.int (0 : Int32)), (.int (0 : Int32)), (.int (0 : Int32)), (.int (0 : Int32)), (.int (0 : Int32)), (.int (0 : Int32)), (.int (0 : Int32)), (.int (0 : Int32)), (.int (0 : Int32)), (.int (0 : Int32)), (.int (0 : Int32))] (.int (0 : Int32)) := (Arv.new A27 (by decide)).pad (pad_rep [] (.int (0 : Int32)) 16)
  have pre38 : ∀ t, Steps p.tables e below (T27.setTop (mkF m 14 #[.val (.ref a1), .val (.int (16 : Int32))] [(.ref b27), (.ref a1)])) t → Steps p.tables e below (s₁.setTop (entryFrame m #[(.ref a1), (.int (16 : Int32))] 2)) t := fun t kt => pre26 t (st27 _ kt)
  obtain ⟨T39, h39, X39, e39, W39, st39⟩ := putF X27 hx hZ hown (host := "") (Or.inl (hw _ (List.mem_of_getElem? (i := 64) rfl))) Via.refl e27 f34 f33 (Or.inl (hw _ (List.mem_of_getElem? (i := 65) rfl))) (hw _ (List.mem_of_getElem? (i := 51) rfl)) (ty := (.array .byte)) (by decide) rfl rfl (g := (mkF m 14 #[.val (.ref a1), .val (.int (16 : Int32))] [(.ref b27), (.ref a1)])) rfl rfl (hb hby d9_14)
  have f40 := (f31).wr W39 (Or.inl (List.mem_singleton.mpr rfl))
  have f41 := (f32).wr W39 g1
  have f42 := (f33).wr W39
  have f43 := (f35).other W39 (Or.inr (slot_ne (Or.inl (hw _ (List.mem_of_getElem? (i := 67) rfl))) (Or.inl (hw _ (List.mem_of_getElem? (i := 65) rfl))) (by decide) (t := .byte) (t' := (.array .byte)) (by decide) (by decide)))
  have f44 := (f36).other W39 (Or.inr (slot_ne (Or.inl (hw _ (List.mem_of_getElem? (i := 90) rfl))) (Or.inl (hw _ (List.mem_of_getElem? (i := 65) rfl))) (by decide) (t := .int) (t' := (.array .byte)) (by decide) (by decide)))
  have f45 := (V27).other W39 (Ne.symm ne28)
  have Fw39 := (f34).same W39
  have Nf46 := Fr.snoc X39 N0 g1
  have Zf47 : n0 ≤ h39.size := Nat.le_trans Zf37 (Keep.of_wr W39).1
  have pre48 : ∀ t, Steps p.tables e below (T39.setTop (mkF m 17 #[.val (.ref a1), .val (.int (16 : Int32))] [])) t → Steps p.tables e below (s₁.setTop (entryFrame m #[(.ref a1), (.int (16 : Int32))] 2)) t := fun t kt => pre38 t (st39 _ kt)
  have pre49 : ∀ t, Steps p.tables e below (T39.setTop (mkF m 19 #[.val (.ref a1), .val (.int (16 : Int32))] [(.int (0 : Int32)), (.ref a1)])) t → Steps p.tables e below (s₁.setTop (entryFrame m #[(.ref a1), (.int (16 : Int32))] 2)) t := fun t kt => pre48 t (by
    refine XS.aloadN X39.here hx rfl (hb hby d9_17) rfl rfl ?_
    show Steps p.tables e below (T39.setTop (mkF m 18 #[.val (.ref a1), .val (.int (16 : Int32))] [(.ref a1)])) _
    refine XS.iconst X39.here hx rfl (hb hby d9_18) ?_
    show Steps p.tables e below (T39.setTop (mkF m 19 #[.val (.ref a1), .val (.int (16 : Int32))] [(.int (0 : Int32)), (.ref a1)])) _
    exact kt)
  obtain ⟨T50, h50, X50, e50, W50, st50⟩ := putFN X39 hx hZ hown (hw _ (List.mem_of_getElem? (i := 66) rfl)) Via.refl e39 f43 f42 (Or.inl (hw _ (List.mem_of_getElem? (i := 67) rfl))) (hw _ (List.mem_of_getElem? (i := 51) rfl)) (ty := .byte) (v' := (.int (0 : Int32))) (by decide) rfl rfl (g := (mkF m 19 #[.val (.ref a1), .val (.int (16 : Int32))] [(.int (0 : Int32)), (.ref a1)])) rfl rfl (hb hby d9_19)
  have f51 := (f40).wr W50 (Or.inl (List.mem_singleton.mpr rfl))
  have f52 := (f41).wr W50 g1
  have f53 := (f42).wr W50
  have f54 := (f44).other W50 (Or.inr (slot_ne (Or.inl (hw _ (List.mem_of_getElem? (i := 90) rfl))) (Or.inl (hw _ (List.mem_of_getElem? (i := 67) rfl))) (by decide) (t := .int) (t' := .byte) (by decide) (by decide)))
  have f55 := (f45).other W50 (Ne.symm ne28)
  have f56 := (Fw39).other W50 (Or.inr (slot_ne (Or.inl (hw _ (List.mem_of_getElem? (i := 65) rfl))) (Or.inl (hw _ (List.mem_of_getElem? (i := 67) rfl))) (by decide) (t := (.array .byte)) (t' := .byte) (by decide) (by decide)))
  have Fw50 := (f43).same W50
  have Nf57 := Fr.snoc X50 Nf46 g1
  have Zf58 : n0 ≤ h50.size := Nat.le_trans Zf47 (Keep.of_wr W50).1
  have pre59 : ∀ t, Steps p.tables e below (T50.setTop (mkF m 22 #[.val (.ref a1), .val (.int (16 : Int32))] [])) t → Steps p.tables e below (s₁.setTop (entryFrame m #[(.ref a1), (.int (16 : Int32))] 2)) t := fun t kt => pre49 t (st50 _ kt)
  have pre60 : ∀ t, Steps p.tables e below (T50.setTop (mkF m 38 #[.val (.ref a1), .val (.int (16 : Int32))] [])) t → Steps p.tables e below (s₁.setTop (entryFrame m #[(.ref a1), (.int (16 : Int32))] 2)) t := fun t kt => pre59 t (by
    refine XS.goto X50.here hx rfl (pc0 := 22) (pc' := 38) rfl (hb hby d9_22) (by decide) (by decide) ?_
    show Steps p.tables e below (T50.setTop (mkF m 38 #[.val (.ref a1), .val (.int (16 : Int32))] [])) _
    exact kt)
  obtain ⟨fs, hr, hrun, hended, hW, hsame⟩ := X50.leave (v := none) (fun _ => rfl)
  refine ⟨_, _, pre60 _ ?_, hrun, hended, _, _, rfl, ?_, ⟨_, rfl⟩, hW, hsame.mono (by decide) (by decide)⟩
  · exact X50.returnOut hx Bd.returns (hb hby d9_38) hr
  · show QSI Z a1 h0 n0 _ T50.heap _
    rw [e50]
    exact ⟨rfl, Nf57, f51, b27, k27, gz29, szb27, f56, Fw50, f54, f55⟩
theorem ef_rmBI (m : MethodId) (x0 : Addr) : entryFrame m #[(.ref x0)] 1 = mkF m 0 #[.val (.ref x0)] [] := by first | (simp [entryFrame, mkF, argsToLocals, Value.category]; done) | rfl
theorem d8_0 : decode jdk_67_method_1_code 0 = .ok (.aload_n 0, 1) := by decide +kernel
theorem d8_1 : decode jdk_67_method_1_code 1 = .ok (.bipush 16, 2) := by decide +kernel
theorem d8_3 : decode jdk_67_method_1_code 3 = .ok (.invokespecial 1, 3) := by decide +kernel
theorem d8_6 : decode jdk_67_method_1_code 6 = .ok (.return_, 1) := by decide +kernel
set_option maxRecDepth 65536 in
set_option maxHeartbeats 40000000 in
theorem rmBI (l : Launch) (Z : State) (a0 : Array Value) (hw : ∀ d ∈ tables_1, d.before a0 Z = true) (ws : List Jvm.Cond) (a1 : Addr) (u1 u2 : Value) (z0 : Int32) (h0 : Heap) (n0 : Nat) (Z0 : n0 ≤ h0.size) (E1 : Exa Z h0 a1 "java/lang/StringBuilder") (g1 : n0 ≤ a1) (F1 : Fld Z h0 a1 "java/lang/AbstractStringBuilder" "value" "[B" u1) (F2 : Fld Z h0 a1 "java/lang/AbstractStringBuilder" "coder" "B" u2) (F3 : Fld Z h0 a1 "java/lang/AbstractStringBuilder" "count" "I" (.int (0 : Int32))) (O0 : OldL Z n0 h0) (S0 : Sta Z Z.heap "java/lang/String" "COMPACT_STRINGS" "Z" (.int z0)) (hz : ¬ z0 = (0 : Int32)) :
    MetFree l (⟨"java/lang/StringBuilder", "<init>", "()V"⟩ : MethodName) (head1 (Jvm.Cond.code (⟨"java/lang/StringBuilder", "<init>", "()V"⟩ : MethodName) jdk_67_method_1_code 1 none :: ws) ({ frames := 2, cells := 1, slots := 16, locals := 25 } : Room)) (fun a U => a = #[(.ref a1)] ∧ Z.Warmed39 U.vm ∧ U.heap = h0) (fun _ _ _ _ _ => True) (fun _ U o U' => ∃ v L, o = .returned v ∧ QSI Z a1 h0 n0 v U'.heap L ∧ FrameEnd U o U' L ({ frames := 2, cells := 1, slots := 16, locals := 25 } : Room).cells ({ frames := 2, cells := 1, slots := 16, locals := 25 } : Room).slots) := by
  refine MetFree.of_bodySF (plainFor_of_name pn_java_lang_StringBuilder) hisR ?_
  intro p e s m args below meth c s₁ Bd hml0 hP hK
  obtain ⟨rfl, hZ, hh⟩ := hP
  have hx := Bd.exec
  have hby := Bd.bytes
  have hml : c.maxLocals = 1 := hml0
  have hown : s.vm.findClass "java/lang/StringBuilder" = some m.cls := findClass_of_methodNamed Bd.named
  have hnm := (name_of_methodNamed Bd.named Bd.method).1
  have X0 : Stand p l e ({ frames := 2, cells := 1, slots := 16, locals := 25 } : Room) s m #[(.ref a1)] below meth c s₁ [] 0 0 := Stand.of_body Bd
  have e0 : s₁.heap = h0 := by rw [← hh, Bd.state]; rfl
  have N0 := Fr.nil n0
  have pre0 : ∀ t, Steps p.tables e below (s₁.setTop (mkF m 0 #[.val (.ref a1)] [])) t → Steps p.tables e below (s₁.setTop (entryFrame m #[(.ref a1)] 1)) t := fun t kt => castTop (ef_rmBI m a1) kt
  have pre21 : ∀ t, Steps p.tables e below (s₁.setTop (mkF m 3 #[.val (.ref a1)] [(.int (16 : Int32)), (.ref a1)])) t → Steps p.tables e below (s₁.setTop (entryFrame m #[(.ref a1)] 1)) t := fun t kt => pre0 t (by
    refine XS.aloadN X0.here hx rfl (hb hby d8_0) rfl rfl ?_
    show Steps p.tables e below (s₁.setTop (mkF m 1 #[.val (.ref a1)] [(.ref a1)])) _
    refine XS.bipush X0.here hx rfl (hb hby d8_1) ?_
    show Steps p.tables e below (s₁.setTop (mkF m 3 #[.val (.ref a1)] [(.int (16 : Int32)), (.ref a1)])) _
    exact kt)
  obtain ⟨_, _, ⟨T22, L22, k22, n22⟩, -, X22, ⟨Lc22, hQ22, l22, y22, z22⟩, st22⟩ := X0.specialBack hx (y := (⟨"java/lang/AbstractStringBuilder", "<init>", "(I)V"⟩ : MethodName)) rfl hown (mvT hZ (hw _ (List.mem_of_getElem? (i := 56) rfl))) (mvT hZ (hw _ (List.mem_of_getElem? (i := 57) rfl))) (mvT hZ (hw _ (List.mem_of_getElem? (i := 61) rfl))) (by decide) (backOf (W := 0) (rmAI l Z a0 hw [] a1 _ _ z0 h0 n0 Z0 E1 g1 F1 F2 F3 O0 S0 hz) hZ (hw _ (List.mem_of_getElem? (i := 61) rfl)) (hw _ (List.mem_of_getElem? (i := 60) rfl)) (by decide) (by decide)) (g := (mkF m 3 #[.val (.ref a1)] [(.int (16 : Int32)), (.ref a1)])) rfl (by rw [hml]; rfl) (Steps.refl _) (a := a1) (argsL := [(.int (16 : Int32))]) (rest := []) (lenOf pd__28I_29V rfl) rfl (by show 2 * 0 + _ ≤ _; exact Nat.le_of_eq rfl) (hb hby d8_3) (fun _ _ => ⟨rfl, e0, (by decide : 0 + 1 ≤ _), (by decide : 0 + 16 ≤ _)⟩)
  dsimp only [Pt.U, Pt.locs, Pt.cells, Pt.slots] at X22 l22 y22 z22 st22 hQ22
  subst l22 y22 z22
  obtain ⟨rfl, N22q, K22, d22, kd22, gd22, sd22, Fv22, Fc22, Fn22, Va22⟩ := hQ22
  have N22 := Fr.app N0 N22q
  have szd22 : h0.size ≤ d22 := Nat.le_trans ((Keep.refl h0 [a1])).1 sd22
  have ne23 : a1 ≠ d22 := Nat.ne_of_lt (Nat.lt_of_lt_of_le (E1).lt sd22)
  have sz24 := Nat.le_trans ((Keep.refl h0 [a1])).1 sd22
  have f25 := ((Keep.refl h0 [a1])).trans K22 (own_all1 (Or.inl (List.mem_singleton.mpr rfl)))
  have f26 := (O0).keep K22 (own_all1 g1)
  have f27 := (E1).keep K22
  have Zf28 : n0 ≤ T22.heap.size := Nat.le_trans Z0 (K22).1
  have pre29 : ∀ t, Steps p.tables e below (T22.setTop (mkF m 6 #[.val (.ref a1)] [])) t → Steps p.tables e below (s₁.setTop (entryFrame m #[(.ref a1)] 1)) t := fun t kt => pre21 t (st22.trans kt)
  obtain ⟨fs, hr, hrun, hended, hW, hsame⟩ := X22.leave (v := none) (fun _ => rfl)
  refine ⟨_, _, pre29 _ ?_, hrun, hended, _, _, rfl, ?_, ⟨_, rfl⟩, hW, hsame.mono (by decide) (by decide)⟩
  · exact X22.returnOut hx Bd.returns (hb hby d8_6) hr
  · show QSI Z a1 h0 n0 _ T22.heap _
    exact ⟨rfl, N22, f25, d22, kd22, gd22, szd22, Fv22, Fc22, Fn22, Va22⟩
def QrmTv (Z : State) (d1 : Addr) (h0 : Heap) (n0 : Nat) (v : Option Value) (h : Heap) (L : List Loc) : Prop := v = some (.ref d1) ∧ Fr n0 L ∧ h = h0
def QrmTn (Z : State) (n1 : Int32) (h0 : Heap) (n0 : Nat) (v : Option Value) (h : Heap) (L : List Loc) : Prop := v = some (.int n1) ∧ Fr n0 L ∧ h = h0
def QrmTl (Z : State) (h0 : Heap) (n0 : Nat) (v : Option Value) (h : Heap) (L : List Loc) : Prop := v = some (.int (1 : Int32)) ∧ Fr n0 L ∧ h = h0
theorem ef_rmTv (m : MethodId) (x0 : Addr) : entryFrame m #[(.ref x0)] 1 = mkF m 0 #[.val (.ref x0)] [] := by first | (simp [entryFrame, mkF, argsToLocals, Value.category]; done) | rfl
theorem d21_0 : decode jdk_68_method_64_code 0 = .ok (.aload_n 0, 1) := by decide +kernel
theorem d21_1 : decode jdk_68_method_64_code 1 = .ok (.getfield 15, 3) := by decide +kernel
theorem d21_4 : decode jdk_68_method_64_code 4 = .ok (.areturn, 1) := by decide +kernel
set_option maxRecDepth 65536 in
set_option maxHeartbeats 40000000 in
theorem rmTv (l : Launch) (Z : State) (a0 : Array Value) (hw : ∀ d ∈ tables_1, d.before a0 Z = true) (ws : List Jvm.Cond) (a1 d1 : Addr) (h0 : Heap) (n0 : Nat) (Z0 : n0 ≤ h0.size) (F1 : Fld Z h0 a1 "java/lang/AbstractStringBuilder" "value" "[B" (.ref d1)) :
    MetFree l (⟨"java/lang/AbstractStringBuilder", "getValue", "()[B"⟩ : MethodName) (head1 (Jvm.Cond.code (⟨"java/lang/AbstractStringBuilder", "getValue", "()[B"⟩ : MethodName) jdk_68_method_64_code 1 (some (.array .byte)) :: ws) ({ frames := 0, cells := 0, slots := 0, locals := 0 } : Room)) (fun a U => a = #[(.ref a1)] ∧ Z.Warmed39 U.vm ∧ U.heap = h0) (fun _ _ _ _ _ => True) (fun _ U o U' => ∃ v L, o = .returned v ∧ QrmTv Z d1 h0 n0 v U'.heap L ∧ FrameEnd U o U' L ({ frames := 0, cells := 0, slots := 0, locals := 0 } : Room).cells ({ frames := 0, cells := 0, slots := 0, locals := 0 } : Room).slots) := by
  refine MetFree.of_bodySF (plainFor_of_name pn_java_lang_AbstractStringBuilder) hisR ?_
  intro p e s m args below meth c s₁ Bd hml0 hP hK
  obtain ⟨rfl, hZ, hh⟩ := hP
  have hx := Bd.exec
  have hby := Bd.bytes
  have hml : c.maxLocals = 1 := hml0
  have hown : s.vm.findClass "java/lang/AbstractStringBuilder" = some m.cls := findClass_of_methodNamed Bd.named
  have hnm := (name_of_methodNamed Bd.named Bd.method).1
  have X0 : Stand p l e ({ frames := 0, cells := 0, slots := 0, locals := 0 } : Room) s m #[(.ref a1)] below meth c s₁ [] 0 0 := Stand.of_body Bd
  have e0 : s₁.heap = h0 := by rw [← hh, Bd.state]; rfl
  have N0 := Fr.nil n0
  have pre0 : ∀ t, Steps p.tables e below (s₁.setTop (mkF m 0 #[.val (.ref a1)] [])) t → Steps p.tables e below (s₁.setTop (entryFrame m #[(.ref a1)] 1)) t := fun t kt => castTop (ef_rmTv m a1) kt
  have pre21 : ∀ t, Steps p.tables e below (s₁.setTop (mkF m 1 #[.val (.ref a1)] [(.ref a1)])) t → Steps p.tables e below (s₁.setTop (entryFrame m #[(.ref a1)] 1)) t := fun t kt => pre0 t (by
    refine XS.aloadN X0.here hx rfl (hb hby d21_0) rfl rfl ?_
    show Steps p.tables e below (s₁.setTop (mkF m 1 #[.val (.ref a1)] [(.ref a1)])) _
    exact kt)
  obtain ⟨T22, X22, e22, st22⟩ := getF X0 hx hZ hown (host := "") (Or.inl (hw _ (List.mem_of_getElem? (i := 64) rfl))) Via.refl e0 F1 (g := (mkF m 1 #[.val (.ref a1)] [(.ref a1)])) rfl rfl (hb hby d21_1)
  have pre23 : ∀ t, Steps p.tables e below (T22.setTop (mkF m 4 #[.val (.ref a1)] [(.ref d1)])) t → Steps p.tables e below (s₁.setTop (entryFrame m #[(.ref a1)] 1)) t := fun t kt => pre21 t (st22 _ kt)
  obtain ⟨fs, hr, hrun, hended, hW, hsame⟩ := X22.leave (v := (some (.ref d1))) (fun h => by rw [Bd.returns] at h; cases h)
  refine ⟨_, _, pre23 _ ?_, hrun, hended, _, _, rfl, ?_, ⟨_, rfl⟩, hW, hsame.mono (by decide) (by decide)⟩
  · exact retOut X22 hx Bd.returns rfl (Or.inr (Or.inr (Or.inr (Or.inr ⟨rfl, rfl, rfl⟩)))) (hb hby d21_4) hr
  · show QrmTv Z d1 h0 n0 _ T22.heap _
    rw [e22]
    exact ⟨rfl, N0, rfl⟩
theorem ef_rmTa (m : MethodId) (x0 : Addr) : entryFrame m #[(.ref x0)] 1 = mkF m 0 #[.val (.ref x0)] [] := by first | (simp [entryFrame, mkF, argsToLocals, Value.category]; done) | rfl
theorem d23_0 : decode jdk_68_method_6_code 0 = .ok (.aload_n 0, 1) := by decide +kernel
theorem d23_1 : decode jdk_68_method_6_code 1 = .ok (.getfield 79, 3) := by decide +kernel
theorem d23_4 : decode jdk_68_method_6_code 4 = .ok (.ireturn, 1) := by decide +kernel
set_option maxRecDepth 65536 in
set_option maxHeartbeats 40000000 in
theorem rmTa (l : Launch) (Z : State) (a0 : Array Value) (hw : ∀ d ∈ tables_1, d.before a0 Z = true) (ws : List Jvm.Cond) (a1 : Addr) (n1 : Int32) (h0 : Heap) (n0 : Nat) (Z0 : n0 ≤ h0.size) (F1 : Fld Z h0 a1 "java/lang/AbstractStringBuilder" "count" "I" (.int n1)) :
    MetFree l (⟨"java/lang/AbstractStringBuilder", "length", "()I"⟩ : MethodName) (head1 (Jvm.Cond.code (⟨"java/lang/AbstractStringBuilder", "length", "()I"⟩ : MethodName) jdk_68_method_6_code 1 (some .int) :: ws) ({ frames := 0, cells := 0, slots := 0, locals := 0 } : Room)) (fun a U => a = #[(.ref a1)] ∧ Z.Warmed39 U.vm ∧ U.heap = h0) (fun _ _ _ _ _ => True) (fun _ U o U' => ∃ v L, o = .returned v ∧ QrmTn Z n1 h0 n0 v U'.heap L ∧ FrameEnd U o U' L ({ frames := 0, cells := 0, slots := 0, locals := 0 } : Room).cells ({ frames := 0, cells := 0, slots := 0, locals := 0 } : Room).slots) := by
  refine MetFree.of_bodySF (plainFor_of_name pn_java_lang_AbstractStringBuilder) hisR ?_
  intro p e s m args below meth c s₁ Bd hml0 hP hK
  obtain ⟨rfl, hZ, hh⟩ := hP
  have hx := Bd.exec
  have hby := Bd.bytes
  have hml : c.maxLocals = 1 := hml0
  have hown : s.vm.findClass "java/lang/AbstractStringBuilder" = some m.cls := findClass_of_methodNamed Bd.named
  have hnm := (name_of_methodNamed Bd.named Bd.method).1
  have X0 : Stand p l e ({ frames := 0, cells := 0, slots := 0, locals := 0 } : Room) s m #[(.ref a1)] below meth c s₁ [] 0 0 := Stand.of_body Bd
  have e0 : s₁.heap = h0 := by rw [← hh, Bd.state]; rfl
  have N0 := Fr.nil n0
  have pre0 : ∀ t, Steps p.tables e below (s₁.setTop (mkF m 0 #[.val (.ref a1)] [])) t → Steps p.tables e below (s₁.setTop (entryFrame m #[(.ref a1)] 1)) t := fun t kt => castTop (ef_rmTa m a1) kt
  have pre21 : ∀ t, Steps p.tables e below (s₁.setTop (mkF m 1 #[.val (.ref a1)] [(.ref a1)])) t → Steps p.tables e below (s₁.setTop (entryFrame m #[(.ref a1)] 1)) t := fun t kt => pre0 t (by
    refine XS.aloadN X0.here hx rfl (hb hby d23_0) rfl rfl ?_
    show Steps p.tables e below (s₁.setTop (mkF m 1 #[.val (.ref a1)] [(.ref a1)])) _
    exact kt)
  obtain ⟨T22, X22, e22, st22⟩ := getF X0 hx hZ hown (host := "") (Or.inl (hw _ (List.mem_of_getElem? (i := 89) rfl))) Via.refl e0 F1 (g := (mkF m 1 #[.val (.ref a1)] [(.ref a1)])) rfl rfl (hb hby d23_1)
  have pre23 : ∀ t, Steps p.tables e below (T22.setTop (mkF m 4 #[.val (.ref a1)] [(.int n1)])) t → Steps p.tables e below (s₁.setTop (entryFrame m #[(.ref a1)] 1)) t := fun t kt => pre21 t (st22 _ kt)
  obtain ⟨fs, hr, hrun, hended, hW, hsame⟩ := X22.leave (v := (some (.int n1))) (fun h => by rw [Bd.returns] at h; cases h)
  refine ⟨_, _, pre23 _ ?_, hrun, hended, _, _, rfl, ?_, ⟨_, rfl⟩, hW, hsame.mono (by decide) (by decide)⟩
  · exact retI X22 hx Bd.returns (hb hby d23_4) hr
  · show QrmTn Z n1 h0 n0 _ T22.heap _
    rw [e22]
    exact ⟨rfl, N0, rfl⟩
theorem ef_rmTs (m : MethodId) (x0 : Addr) : entryFrame m #[(.ref x0)] 1 = mkF m 0 #[.val (.ref x0)] [] := by first | (simp [entryFrame, mkF, argsToLocals, Value.category]; done) | rfl
theorem d22_0 : decode jdk_67_method_93_code 0 = .ok (.aload_n 0, 1) := by decide +kernel
theorem d22_1 : decode jdk_67_method_93_code 1 = .ok (.invokespecial 343, 3) := by decide +kernel
theorem d22_4 : decode jdk_67_method_93_code 4 = .ok (.ireturn, 1) := by decide +kernel
set_option maxRecDepth 65536 in
set_option maxHeartbeats 40000000 in
theorem rmTs (l : Launch) (Z : State) (a0 : Array Value) (hw : ∀ d ∈ tables_1, d.before a0 Z = true) (ws : List Jvm.Cond) (a1 : Addr) (n1 : Int32) (h0 : Heap) (n0 : Nat) (Z0 : n0 ≤ h0.size) (E1 : Exa Z h0 a1 "java/lang/StringBuilder") (F1 : Fld Z h0 a1 "java/lang/AbstractStringBuilder" "count" "I" (.int n1)) :
    MetFree l (⟨"java/lang/StringBuilder", "length", "()I"⟩ : MethodName) (head1 (Jvm.Cond.code (⟨"java/lang/StringBuilder", "length", "()I"⟩ : MethodName) jdk_67_method_93_code 1 (some .int) :: ws) ({ frames := 1, cells := 0, slots := 0, locals := 12 } : Room)) (fun a U => a = #[(.ref a1)] ∧ Z.Warmed39 U.vm ∧ U.heap = h0) (fun _ _ _ _ _ => True) (fun _ U o U' => ∃ v L, o = .returned v ∧ QrmTn Z n1 h0 n0 v U'.heap L ∧ FrameEnd U o U' L ({ frames := 1, cells := 0, slots := 0, locals := 12 } : Room).cells ({ frames := 1, cells := 0, slots := 0, locals := 12 } : Room).slots) := by
  refine MetFree.of_bodySF (plainFor_of_name pn_java_lang_StringBuilder) hisR ?_
  intro p e s m args below meth c s₁ Bd hml0 hP hK
  obtain ⟨rfl, hZ, hh⟩ := hP
  have hx := Bd.exec
  have hby := Bd.bytes
  have hml : c.maxLocals = 1 := hml0
  have hown : s.vm.findClass "java/lang/StringBuilder" = some m.cls := findClass_of_methodNamed Bd.named
  have hnm := (name_of_methodNamed Bd.named Bd.method).1
  have X0 : Stand p l e ({ frames := 1, cells := 0, slots := 0, locals := 12 } : Room) s m #[(.ref a1)] below meth c s₁ [] 0 0 := Stand.of_body Bd
  have e0 : s₁.heap = h0 := by rw [← hh, Bd.state]; rfl
  have N0 := Fr.nil n0
  have pre0 : ∀ t, Steps p.tables e below (s₁.setTop (mkF m 0 #[.val (.ref a1)] [])) t → Steps p.tables e below (s₁.setTop (entryFrame m #[(.ref a1)] 1)) t := fun t kt => castTop (ef_rmTs m a1) kt
  have pre21 : ∀ t, Steps p.tables e below (s₁.setTop (mkF m 1 #[.val (.ref a1)] [(.ref a1)])) t → Steps p.tables e below (s₁.setTop (entryFrame m #[(.ref a1)] 1)) t := fun t kt => pre0 t (by
    refine XS.aloadN X0.here hx rfl (hb hby d22_0) rfl rfl ?_
    show Steps p.tables e below (s₁.setTop (mkF m 1 #[.val (.ref a1)] [(.ref a1)])) _
    exact kt)
  obtain ⟨_, _, ⟨T22, L22, k22, n22⟩, -, X22, ⟨Lc22, hQ22, l22, y22, z22⟩, st22⟩ := superBack X0 hx hZ (y := (⟨"java/lang/AbstractStringBuilder", "length", "()I"⟩ : MethodName)) hown (hw _ (List.mem_of_getElem? (i := 140) rfl)) (own_same (hw _ (List.mem_of_getElem? (i := 136) rfl)) (hw _ (List.mem_of_getElem? (i := 131) rfl)) (hw _ (List.mem_of_getElem? (i := 132) rfl)) rfl (by decide)) (hw _ (List.mem_of_getElem? (i := 136) rfl)) (hw _ (List.mem_of_getElem? (i := 75) rfl)) (by decide) (backOf (W := 0) (rmTa l Z a0 hw [] a1 n1 h0 n0 Z0 F1) hZ (hw _ (List.mem_of_getElem? (i := 141) rfl)) (hw _ (List.mem_of_getElem? (i := 60) rfl)) (by decide) (by decide)) e0 (Ins.self E1) (g := (mkF m 1 #[.val (.ref a1)] [(.ref a1)])) rfl (by rw [hml]; rfl) (hw _ (List.mem_of_getElem? (i := 141) rfl)) (argsL := []) (rest := []) (lenOf pd__28_29I rfl) rfl (by show 2 * 0 + _ ≤ _; exact Nat.le_of_eq rfl) (hb hby d22_1) (fun _ _ => ⟨rfl, e0, (by decide : 0 + 0 ≤ _), (by decide : 0 + 0 ≤ _)⟩)
  dsimp only [Pt.U, Pt.locs, Pt.cells, Pt.slots] at X22 l22 y22 z22 st22 hQ22
  subst l22 y22 z22
  obtain ⟨rfl, N22q, e22q⟩ := hQ22
  have N22 := Fr.app N0 N22q
  have pre23 : ∀ t, Steps p.tables e below (T22.setTop (mkF m 4 #[.val (.ref a1)] [(.int n1)])) t → Steps p.tables e below (s₁.setTop (entryFrame m #[(.ref a1)] 1)) t := fun t kt => pre21 t (st22.trans kt)
  obtain ⟨fs, hr, hrun, hended, hW, hsame⟩ := X22.leave (v := (some (.int n1))) (fun h => by rw [Bd.returns] at h; cases h)
  refine ⟨_, _, pre23 _ ?_, hrun, hended, _, _, rfl, ?_, ⟨_, rfl⟩, hW, hsame.mono (by decide) (by decide)⟩
  · exact retI X22 hx Bd.returns (hb hby d22_4) hr
  · show QrmTn Z n1 h0 n0 _ T22.heap _
    rw [e22q]
    exact ⟨rfl, N22, rfl⟩
theorem ef_rmTl (m : MethodId) (x0 : Addr) : entryFrame m #[(.ref x0)] 1 = mkF m 0 #[.val (.ref x0)] [] := by first | (simp [entryFrame, mkF, argsToLocals, Value.category]; done) | rfl
theorem d24_0 : decode jdk_68_method_68_code 0 = .ok (.getstatic 18, 3) := by decide +kernel
theorem d24_3 : decode jdk_68_method_68_code 3 = .ok (.ifCond .eq 14, 3) := by decide +kernel
theorem d24_6 : decode jdk_68_method_68_code 6 = .ok (.aload_n 0, 1) := by decide +kernel
theorem d24_7 : decode jdk_68_method_68_code 7 = .ok (.getfield 22, 3) := by decide +kernel
theorem d24_10 : decode jdk_68_method_68_code 10 = .ok (.ifCond .ne 7, 3) := by decide +kernel
theorem d24_13 : decode jdk_68_method_68_code 13 = .ok (.iconst 1, 1) := by decide +kernel
theorem d24_14 : decode jdk_68_method_68_code 14 = .ok (.goto 4, 3) := by decide +kernel
theorem d24_18 : decode jdk_68_method_68_code 18 = .ok (.ireturn, 1) := by decide +kernel
set_option maxRecDepth 65536 in
set_option maxHeartbeats 40000000 in
theorem rmTl (l : Launch) (Z : State) (a0 : Array Value) (hw : ∀ d ∈ tables_1, d.before a0 Z = true) (ws : List Jvm.Cond) (a1 : Addr) (z0 : Int32) (h0 : Heap) (n0 : Nat) (Z0 : n0 ≤ h0.size) (F1 : Fld Z h0 a1 "java/lang/AbstractStringBuilder" "coder" "B" (.int (0 : Int32))) (O0 : OldL Z n0 h0) (S0 : Sta Z Z.heap "java/lang/String" "COMPACT_STRINGS" "Z" (.int z0)) (hz : ¬ z0 = (0 : Int32)) :
    MetFree l (⟨"java/lang/AbstractStringBuilder", "isLatin1", "()Z"⟩ : MethodName) (head1 (Jvm.Cond.code (⟨"java/lang/AbstractStringBuilder", "isLatin1", "()Z"⟩ : MethodName) jdk_68_method_68_code 1 (some .boolean) :: ws) ({ frames := 0, cells := 0, slots := 0, locals := 0 } : Room)) (fun a U => a = #[(.ref a1)] ∧ Z.Warmed39 U.vm ∧ U.heap = h0) (fun _ _ _ _ _ => True) (fun _ U o U' => ∃ v L, o = .returned v ∧ QrmTl Z  h0 n0 v U'.heap L ∧ FrameEnd U o U' L ({ frames := 0, cells := 0, slots := 0, locals := 0 } : Room).cells ({ frames := 0, cells := 0, slots := 0, locals := 0 } : Room).slots) := by
  refine MetFree.of_bodySF (plainFor_of_name pn_java_lang_AbstractStringBuilder) hisR ?_
  intro p e s m args below meth c s₁ Bd hml0 hP hK
  obtain ⟨rfl, hZ, hh⟩ := hP
  have hx := Bd.exec
  have hby := Bd.bytes
  have hml : c.maxLocals = 1 := hml0
  have hown : s.vm.findClass "java/lang/AbstractStringBuilder" = some m.cls := findClass_of_methodNamed Bd.named
  have hnm := (name_of_methodNamed Bd.named Bd.method).1
  have X0 : Stand p l e ({ frames := 0, cells := 0, slots := 0, locals := 0 } : Room) s m #[(.ref a1)] below meth c s₁ [] 0 0 := Stand.of_body Bd
  have e0 : s₁.heap = h0 := by rw [← hh, Bd.state]; rfl
  have N0 := Fr.nil n0
  have pre0 : ∀ t, Steps p.tables e below (s₁.setTop (mkF m 0 #[.val (.ref a1)] [])) t → Steps p.tables e below (s₁.setTop (entryFrame m #[(.ref a1)] 1)) t := fun t kt => castTop (ef_rmTl m a1) kt
  obtain ⟨T21, X21, e21, st21⟩ := getS2 X0 hx hZ hown (host := "") (Or.inl (hw _ (List.mem_of_getElem? (i := 63) rfl))) Via.refl e0 (S0.ext (O0).2) (g := (mkF m 0 #[.val (.ref a1)] [])) rfl (hb hby d24_0)
  have pre22 : ∀ t, Steps p.tables e below (T21.setTop (mkF m 3 #[.val (.ref a1)] [(.int z0)])) t → Steps p.tables e below (s₁.setTop (entryFrame m #[(.ref a1)] 1)) t := fun t kt => pre0 t (st21 _ kt)
  have pre23 : ∀ t, Steps p.tables e below (T21.setTop (mkF m 7 #[.val (.ref a1)] [(.ref a1)])) t → Steps p.tables e below (s₁.setTop (entryFrame m #[(.ref a1)] 1)) t := fun t kt => pre22 t (by
    refine XS.ifNo X21.here hx rfl (hb hby d24_3) rfl ((if0 _ _).trans (feq (hz : ¬ (z0 = (0 : Int32)))).1) ?_
    show Steps p.tables e below (T21.setTop (mkF m 6 #[.val (.ref a1)] [])) _
    refine XS.aloadN X21.here hx rfl (hb hby d24_6) rfl rfl ?_
    show Steps p.tables e below (T21.setTop (mkF m 7 #[.val (.ref a1)] [(.ref a1)])) _
    exact kt)
  obtain ⟨T24, X24, e24, st24⟩ := getF X21 hx hZ hown (host := "") (Or.inl (hw _ (List.mem_of_getElem? (i := 66) rfl))) Via.refl e21 F1 (g := (mkF m 7 #[.val (.ref a1)] [(.ref a1)])) rfl rfl (hb hby d24_7)
  have pre25 : ∀ t, Steps p.tables e below (T24.setTop (mkF m 10 #[.val (.ref a1)] [(.int (0 : Int32))])) t → Steps p.tables e below (s₁.setTop (entryFrame m #[(.ref a1)] 1)) t := fun t kt => pre23 t (st24 _ kt)
  have pre26 : ∀ t, Steps p.tables e below (T24.setTop (mkF m 18 #[.val (.ref a1)] [(.int (1 : Int32))])) t → Steps p.tables e below (s₁.setTop (entryFrame m #[(.ref a1)] 1)) t := fun t kt => pre25 t (by
    refine XS.ifNo X24.here hx rfl (hb hby d24_10) rfl ((if0 _ _).trans (teq (by decide : (0 : Int32) = (0 : Int32))).2) ?_
    show Steps p.tables e below (T24.setTop (mkF m 13 #[.val (.ref a1)] [])) _
    refine XS.iconst X24.here hx rfl (hb hby d24_13) ?_
    show Steps p.tables e below (T24.setTop (mkF m 14 #[.val (.ref a1)] [(.int (1 : Int32))])) _
    refine XS.goto X24.here hx rfl (pc0 := 14) (pc' := 18) rfl (hb hby d24_14) (by decide) (by decide) ?_
    show Steps p.tables e below (T24.setTop (mkF m 18 #[.val (.ref a1)] [(.int (1 : Int32))])) _
    exact kt)
  obtain ⟨fs, hr, hrun, hended, hW, hsame⟩ := X24.leave (v := (some (.int (1 : Int32)))) (fun h => by rw [Bd.returns] at h; cases h)
  refine ⟨_, _, pre26 _ ?_, hrun, hended, _, _, rfl, ?_, ⟨_, rfl⟩, hW, hsame.mono (by decide) (by decide)⟩
  · exact retN X24 hx (t := .boolean) Bd.returns (by simp) (hb hby d24_18) hr
  · show QrmTl Z  h0 n0 _ T24.heap _
    rw [e24]
    exact ⟨rfl, N0, rfl⟩
theorem ef_rmTk (m : MethodId) (x0 : Int32) (x1 : Int32) : entryFrame m #[(.int x0), (.int x1)] 2 = mkF m 0 #[.val (.int x0), .val (.int x1)] [] := by first | (simp [entryFrame, mkF, argsToLocals, Value.category]; done) | rfl
theorem pn_java_util_Arrays : plainName "java/util/Arrays" = true := by first | (simp [plainName, overriddenIn]; done) | decide +kernel
theorem d27_0 : decode jdk_65_method_131_code 0 = .ok (.iload_n 1, 1) := by decide +kernel
theorem d27_1 : decode jdk_65_method_131_code 1 = .ok (.iload_n 0, 1) := by decide +kernel
theorem d27_2 : decode jdk_65_method_131_code 2 = .ok (.if_icmp .ge 35, 3) := by decide +kernel
theorem d27_37 : decode jdk_65_method_131_code 37 = .ok (.return_, 1) := by decide +kernel
set_option maxRecDepth 65536 in
set_option maxHeartbeats 40000000 in
theorem rmTk (l : Launch) (Z : State) (a0 : Array Value) (hw : ∀ d ∈ tables_1, d.before a0 Z = true) (ws : List Jvm.Cond) (n1 : Int32) (h0 : Heap) (n0 : Nat) (Z0 : n0 ≤ h0.size) (hn : ¬ n1 < (0 : Int32)) :
    MetFree l (⟨"java/util/Arrays", "checkLength", "(II)V"⟩ : MethodName) (head1 (Jvm.Cond.code (⟨"java/util/Arrays", "checkLength", "(II)V"⟩ : MethodName) jdk_65_method_131_code 2 none :: ws) ({ frames := 0, cells := 0, slots := 0, locals := 0 } : Room)) (fun a U => a = #[(.int (0 : Int32)), (.int n1)] ∧ Z.Warmed39 U.vm ∧ U.heap = h0) (fun _ _ _ _ _ => True) (fun _ U o U' => ∃ v L, o = .returned v ∧ QPu Z  h0 n0 v U'.heap L ∧ FrameEnd U o U' L ({ frames := 0, cells := 0, slots := 0, locals := 0 } : Room).cells ({ frames := 0, cells := 0, slots := 0, locals := 0 } : Room).slots) := by
  refine MetFree.of_bodySF (plainFor_of_name pn_java_util_Arrays) hisR ?_
  intro p e s m args below meth c s₁ Bd hml0 hP hK
  obtain ⟨rfl, hZ, hh⟩ := hP
  have hx := Bd.exec
  have hby := Bd.bytes
  have hml : c.maxLocals = 2 := hml0
  have hown : s.vm.findClass "java/util/Arrays" = some m.cls := findClass_of_methodNamed Bd.named
  have hnm := (name_of_methodNamed Bd.named Bd.method).1
  have X0 : Stand p l e ({ frames := 0, cells := 0, slots := 0, locals := 0 } : Room) s m #[(.int (0 : Int32)), (.int n1)] below meth c s₁ [] 0 0 := Stand.of_body Bd
  have e0 : s₁.heap = h0 := by rw [← hh, Bd.state]; rfl
  have N0 := Fr.nil n0
  have pre0 : ∀ t, Steps p.tables e below (s₁.setTop (mkF m 0 #[.val (.int (0 : Int32)), .val (.int n1)] [])) t → Steps p.tables e below (s₁.setTop (entryFrame m #[(.int (0 : Int32)), (.int n1)] 2)) t := fun t kt => castTop (ef_rmTk m (0 : Int32) n1) kt
  have pre21 : ∀ t, Steps p.tables e below (s₁.setTop (mkF m 37 #[.val (.int (0 : Int32)), .val (.int n1)] [])) t → Steps p.tables e below (s₁.setTop (entryFrame m #[(.int (0 : Int32)), (.int n1)] 2)) t := fun t kt => pre0 t (by
    refine XS.iloadN X0.here hx rfl (hb hby d27_0) rfl ?_
    show Steps p.tables e below (s₁.setTop (mkF m 1 #[.val (.int (0 : Int32)), .val (.int n1)] [(.int n1)])) _
    refine XS.iloadN X0.here hx rfl (hb hby d27_1) rfl ?_
    show Steps p.tables e below (s₁.setTop (mkF m 2 #[.val (.int (0 : Int32)), .val (.int n1)] [(.int (0 : Int32)), (.int n1)])) _
    refine XS.icmpYes X0.here hx rfl (pc0 := 2) (pc' := 37) rfl (hb hby d27_2) rfl (flt (hn : ¬ (n1 < (0 : Int32)))).2.1 (by decide) (by decide) ?_
    show Steps p.tables e below (s₁.setTop (mkF m 37 #[.val (.int (0 : Int32)), .val (.int n1)] [])) _
    exact kt)
  obtain ⟨fs, hr, hrun, hended, hW, hsame⟩ := X0.leave (v := none) (fun _ => rfl)
  refine ⟨_, _, pre21 _ ?_, hrun, hended, _, _, rfl, ?_, ⟨_, rfl⟩, hW, hsame.mono (by decide) (by decide)⟩
  · exact X0.returnOut hx Bd.returns (hb hby d27_37) hr
  · show QPu Z  h0 n0 _ s₁.heap _
    rw [e0]
    exact ⟨rfl, N0, rfl⟩
theorem ef_rmTm (m : MethodId) (x0 : Int32) (x1 : Int32) : entryFrame m #[(.int x0), (.int x1)] 2 = mkF m 0 #[.val (.int x0), .val (.int x1)] [] := by first | (simp [entryFrame, mkF, argsToLocals, Value.category]; done) | rfl
theorem d28_0 : decode jdk_29_method_69_code 0 = .ok (.iload_n 0, 1) := by decide +kernel
theorem d28_1 : decode jdk_29_method_69_code 1 = .ok (.iload_n 1, 1) := by decide +kernel
theorem d28_2 : decode jdk_29_method_69_code 2 = .ok (.if_icmp .gt 7, 3) := by decide +kernel
theorem d28_9 : decode jdk_29_method_69_code 9 = .ok (.iload_n 1, 1) := by decide +kernel
theorem d28_10 : decode jdk_29_method_69_code 10 = .ok (.ireturn, 1) := by decide +kernel
set_option maxRecDepth 65536 in
set_option maxHeartbeats 40000000 in
theorem rmTm (l : Launch) (Z : State) (a0 : Array Value) (hw : ∀ d ∈ tables_1, d.before a0 Z = true) (ws : List Jvm.Cond) (n1 : Int32) (h0 : Heap) (n0 : Nat) (Z0 : n0 ≤ h0.size) (h16 : n1 < (16 : Int32)) :
    MetFree l (⟨"java/lang/Math", "min", "(II)I"⟩ : MethodName) (head1 (Jvm.Cond.code (⟨"java/lang/Math", "min", "(II)I"⟩ : MethodName) jdk_29_method_69_code 2 (some .int) :: ws) ({ frames := 0, cells := 0, slots := 0, locals := 0 } : Room)) (fun a U => a = #[(.int (16 : Int32)), (.int n1)] ∧ Z.Warmed39 U.vm ∧ U.heap = h0) (fun _ _ _ _ _ => True) (fun _ U o U' => ∃ v L, o = .returned v ∧ QrmTn Z n1 h0 n0 v U'.heap L ∧ FrameEnd U o U' L ({ frames := 0, cells := 0, slots := 0, locals := 0 } : Room).cells ({ frames := 0, cells := 0, slots := 0, locals := 0 } : Room).slots) := by
  refine MetFree.of_bodySF (Jvm.Free.JP.mathPlain rfl (by decide +kernel)) hisR ?_
  intro p e s m args below meth c s₁ Bd hml0 hP hK
  obtain ⟨rfl, hZ, hh⟩ := hP
  have hx := Bd.exec
  have hby := Bd.bytes
  have hml : c.maxLocals = 2 := hml0
  have hown : s.vm.findClass "java/lang/Math" = some m.cls := findClass_of_methodNamed Bd.named
  have hnm := (name_of_methodNamed Bd.named Bd.method).1
  have X0 : Stand p l e ({ frames := 0, cells := 0, slots := 0, locals := 0 } : Room) s m #[(.int (16 : Int32)), (.int n1)] below meth c s₁ [] 0 0 := Stand.of_body Bd
  have e0 : s₁.heap = h0 := by rw [← hh, Bd.state]; rfl
  have N0 := Fr.nil n0
  have pre0 : ∀ t, Steps p.tables e below (s₁.setTop (mkF m 0 #[.val (.int (16 : Int32)), .val (.int n1)] [])) t → Steps p.tables e below (s₁.setTop (entryFrame m #[(.int (16 : Int32)), (.int n1)] 2)) t := fun t kt => castTop (ef_rmTm m (16 : Int32) n1) kt
  have pre21 : ∀ t, Steps p.tables e below (s₁.setTop (mkF m 10 #[.val (.int (16 : Int32)), .val (.int n1)] [(.int n1)])) t → Steps p.tables e below (s₁.setTop (entryFrame m #[(.int (16 : Int32)), (.int n1)] 2)) t := fun t kt => pre0 t (by
    refine XS.iloadN X0.here hx rfl (hb hby d28_0) rfl ?_
    show Steps p.tables e below (s₁.setTop (mkF m 1 #[.val (.int (16 : Int32)), .val (.int n1)] [(.int (16 : Int32))])) _
    refine XS.iloadN X0.here hx rfl (hb hby d28_1) rfl ?_
    show Steps p.tables e below (s₁.setTop (mkF m 2 #[.val (.int (16 : Int32)), .val (.int n1)] [(.int n1), (.int (16 : Int32))])) _
    refine XS.icmpYes X0.here hx rfl (pc0 := 2) (pc' := 9) rfl (hb hby d28_2) rfl (tlt (h16 : n1 < (16 : Int32))).2.2.1 (by decide) (by decide) ?_
    show Steps p.tables e below (s₁.setTop (mkF m 9 #[.val (.int (16 : Int32)), .val (.int n1)] [])) _
    refine XS.iloadN X0.here hx rfl (hb hby d28_9) rfl ?_
    show Steps p.tables e below (s₁.setTop (mkF m 10 #[.val (.int (16 : Int32)), .val (.int n1)] [(.int n1)])) _
    exact kt)
  obtain ⟨fs, hr, hrun, hended, hW, hsame⟩ := X0.leave (v := (some (.int n1))) (fun h => by rw [Bd.returns] at h; cases h)
  refine ⟨_, _, pre21 _ ?_, hrun, hended, _, _, rfl, ?_, ⟨_, rfl⟩, hW, hsame.mono (by decide) (by decide)⟩
  · exact retI X0 hx Bd.returns (hb hby d28_10) hr
  · show QrmTn Z n1 h0 n0 _ s₁.heap _
    rw [e0]
    exact ⟨rfl, N0, rfl⟩
def QrmTr (Z : State) (vd : List Value) (n1 : Int32) (h0 : Heap) (n0 : Nat) (v : Option Value) (h : Heap) (L : List Loc) : Prop := ∃ (b : Addr) (kb : ClassId), v = some (.ref b) ∧ Fr n0 L ∧ Keep h0 h [] ∧ n0 ≤ b ∧ h0.size ≤ b ∧ Arv Z h b kb .byte n1 ((List.range n1.toNatClampNeg).map fun i => vd.getD (0 + i) (.int (0 : Int32))) (.int (0 : Int32))
theorem ef_rmTr (m : MethodId) (x0 : Addr) (x1 : Int32) (x2 : Int32) : entryFrame m #[(.ref x0), (.int x1), (.int x2)] 5 = mkF m 0 #[.val (.ref x0), .val (.int x1), .val (.int x2), .unset, .unset] [] := by first | (simp [entryFrame, mkF, argsToLocals, Value.category]; done) | rfl
theorem d26_0 : decode jdk_65_method_133_code 0 = .ok (.iload_n 1, 1) := by decide +kernel
theorem d26_1 : decode jdk_65_method_133_code 1 = .ok (.iload_n 2, 1) := by decide +kernel
theorem pd__28II_29V : parseMethodDescriptor "(II)V" = some ⟨[.int, .int], none⟩ := by decide +kernel
theorem d26_2 : decode jdk_65_method_133_code 2 = .ok (.invokestatic 343, 3) := by decide +kernel
theorem d26_5 : decode jdk_65_method_133_code 5 = .ok (.iload_n 2, 1) := by decide +kernel
theorem d26_6 : decode jdk_65_method_133_code 6 = .ok (.iload_n 1, 1) := by decide +kernel
theorem d26_7 : decode jdk_65_method_133_code 7 = .ok (.isub, 1) := by decide +kernel
theorem d26_8 : decode jdk_65_method_133_code 8 = .ok (.istore_n 3, 1) := by decide +kernel
theorem d26_9 : decode jdk_65_method_133_code 9 = .ok (.iload_n 3, 1) := by decide +kernel
theorem d26_10 : decode jdk_65_method_133_code 10 = .ok (.newarray .byte, 2) := by decide +kernel
theorem d26_12 : decode jdk_65_method_133_code 12 = .ok (.astore 4, 2) := by decide +kernel
theorem d26_14 : decode jdk_65_method_133_code 14 = .ok (.aload_n 0, 1) := by decide +kernel
theorem d26_15 : decode jdk_65_method_133_code 15 = .ok (.iload_n 1, 1) := by decide +kernel
theorem d26_16 : decode jdk_65_method_133_code 16 = .ok (.aload 4, 2) := by decide +kernel
theorem d26_18 : decode jdk_65_method_133_code 18 = .ok (.iconst 0, 1) := by decide +kernel
theorem d26_19 : decode jdk_65_method_133_code 19 = .ok (.aload_n 0, 1) := by decide +kernel
theorem d26_20 : decode jdk_65_method_133_code 20 = .ok (.arraylength, 1) := by decide +kernel
theorem d26_21 : decode jdk_65_method_133_code 21 = .ok (.iload_n 1, 1) := by decide +kernel
theorem d26_22 : decode jdk_65_method_133_code 22 = .ok (.isub, 1) := by decide +kernel
theorem d26_23 : decode jdk_65_method_133_code 23 = .ok (.iload_n 3, 1) := by decide +kernel
theorem pd__28II_29I : parseMethodDescriptor "(II)I" = some ⟨[.int, .int], some .int⟩ := by decide +kernel
theorem d26_24 : decode jdk_65_method_133_code 24 = .ok (.invokestatic 304, 3) := by decide +kernel
theorem d26_27 : decode jdk_65_method_133_code 27 = .ok (.invokestatic 150, 3) := by decide +kernel
theorem d26_30 : decode jdk_65_method_133_code 30 = .ok (.aload 4, 2) := by decide +kernel
theorem d26_32 : decode jdk_65_method_133_code 32 = .ok (.areturn, 1) := by decide +kernel
set_option maxRecDepth 65536 in
set_option maxHeartbeats 40000000 in
theorem rmTr (l : Launch) (Z : State) (a0 : Array Value) (hw : ∀ d ∈ tables_1, d.before a0 Z = true) (ws : List Jvm.Cond) (d1 : Addr) (kd : ClassId) (vd : List Value) (n1 : Int32) (h0 : Heap) (n0 : Nat) (Z0 : n0 ≤ h0.size) (V1 : Arv Z h0 d1 kd .byte (16 : Int32) vd (.int (0 : Int32))) (hn : ¬ n1 < 0) (h16 : n1 < (16 : Int32)) (hcap : n1.toNatClampNeg ≤ 13) :
    MetFree l (⟨"java/util/Arrays", "copyOfRangeByte", "([BII)[B"⟩ : MethodName) (head1 (Jvm.Cond.code (⟨"java/util/Arrays", "copyOfRangeByte", "([BII)[B"⟩ : MethodName) jdk_65_method_133_code 5 (some (.array .byte)) :: ws) ({ frames := 1, cells := 1, slots := 13, locals := 18 } : Room)) (fun a U => a = #[(.ref d1), (.int (0 : Int32)), (.int n1)] ∧ Z.Warmed39 U.vm ∧ U.heap = h0) (fun _ _ _ _ _ => True) (fun _ U o U' => ∃ v L, o = .returned v ∧ QrmTr Z vd n1 h0 n0 v U'.heap L ∧ FrameEnd U o U' L ({ frames := 1, cells := 1, slots := 13, locals := 18 } : Room).cells ({ frames := 1, cells := 1, slots := 13, locals := 18 } : Room).slots) := by
  refine MetFree.of_bodySF (plainFor_of_name pn_java_util_Arrays) hisR ?_
  intro p e s m args below meth c s₁ Bd hml0 hP hK
  obtain ⟨rfl, hZ, hh⟩ := hP
  have hx := Bd.exec
  have hby := Bd.bytes
  have hml : c.maxLocals = 5 := hml0
  have hown : s.vm.findClass "java/util/Arrays" = some m.cls := findClass_of_methodNamed Bd.named
  have hnm := (name_of_methodNamed Bd.named Bd.method).1
  have X0 : Stand p l e ({ frames := 1, cells := 1, slots := 13, locals := 18 } : Room) s m #[(.ref d1), (.int (0 : Int32)), (.int n1)] below meth c s₁ [] 0 0 := Stand.of_body Bd
  have e0 : s₁.heap = h0 := by rw [← hh, Bd.state]; rfl
  have N0 := Fr.nil n0
  have pre0 : ∀ t, Steps p.tables e below (s₁.setTop (mkF m 0 #[.val (.ref d1), .val (.int (0 : Int32)), .val (.int n1), .unset, .unset] [])) t → Steps p.tables e below (s₁.setTop (entryFrame m #[(.ref d1), (.int (0 : Int32)), (.int n1)] 5)) t := fun t kt => castTop (ef_rmTr m d1 (0 : Int32) n1) kt
  have pre21 : ∀ t, Steps p.tables e below (s₁.setTop (mkF m 2 #[.val (.ref d1), .val (.int (0 : Int32)), .val (.int n1), .unset, .unset] [(.int n1), (.int (0 : Int32))])) t → Steps p.tables e below (s₁.setTop (entryFrame m #[(.ref d1), (.int (0 : Int32)), (.int n1)] 5)) t := fun t kt => pre0 t (by
    refine XS.iloadN X0.here hx rfl (hb hby d26_0) rfl ?_
    show Steps p.tables e below (s₁.setTop (mkF m 1 #[.val (.ref d1), .val (.int (0 : Int32)), .val (.int n1), .unset, .unset] [(.int (0 : Int32))])) _
    refine XS.iloadN X0.here hx rfl (hb hby d26_1) rfl ?_
    show Steps p.tables e below (s₁.setTop (mkF m 2 #[.val (.ref d1), .val (.int (0 : Int32)), .val (.int n1), .unset, .unset] [(.int n1), (.int (0 : Int32))])) _
    exact kt)
  obtain ⟨_, _, ⟨T22, L22, k22, n22⟩, -, X22, ⟨Lc22, hQ22, l22, y22, z22⟩, st22⟩ := Jvm.LawKit.callS X0 hx (y := (⟨"java/util/Arrays", "checkLength", "(II)V"⟩ : MethodName)) hown (mvT hZ (hw _ (List.mem_of_getElem? (i := 154) rfl))) (mvT hZ (hw _ (List.mem_of_getElem? (i := 155) rfl))) (mvT hZ (hw _ (List.mem_of_getElem? (i := 149) rfl))) (mvT hZ (hw _ (List.mem_of_getElem? (i := 156) rfl))) (by decide) (backOf (W := 0) (rmTk l Z a0 hw [] n1 h0 n0 Z0 hn) hZ (hw _ (List.mem_of_getElem? (i := 156) rfl)) (hw _ (List.mem_of_getElem? (i := 149) rfl)) (by decide) (by decide)) (g := (mkF m 2 #[.val (.ref d1), .val (.int (0 : Int32)), .val (.int n1), .unset, .unset] [(.int n1), (.int (0 : Int32))])) rfl (by rw [hml]; rfl) (argsL := [(.int (0 : Int32)), (.int n1)]) (rest := []) (lenOf pd__28II_29V rfl) rfl (by show 2 * 0 + _ ≤ _; exact Nat.le_of_eq rfl) (hb hby d26_2) (fun _ _ => ⟨rfl, e0, (by decide : 0 + 0 ≤ _), (by decide : 0 + 0 ≤ _)⟩)
  dsimp only [Pt.U, Pt.locs, Pt.cells, Pt.slots] at X22 l22 y22 z22 st22 hQ22
  subst l22 y22 z22
  obtain ⟨rfl, N22q, e22q⟩ := hQ22
  have N22 := Fr.app N0 N22q
  have pre23 : ∀ t, Steps p.tables e below (T22.setTop (mkF m 5 #[.val (.ref d1), .val (.int (0 : Int32)), .val (.int n1), .unset, .unset] [])) t → Steps p.tables e below (s₁.setTop (entryFrame m #[(.ref d1), (.int (0 : Int32)), (.int n1)] 5)) t := fun t kt => pre21 t (st22 _ kt)
  have pre24 : ∀ t, Steps p.tables e below (T22.setTop (mkF m 8 #[.val (.ref d1), .val (.int (0 : Int32)), .val (.int n1), .unset, .unset] [(.int (n1 - (0 : Int32)))])) t → Steps p.tables e below (s₁.setTop (entryFrame m #[(.ref d1), (.int (0 : Int32)), (.int n1)] 5)) t := fun t kt => pre23 t (by
    refine XS.iloadN X22.here hx rfl (hb hby d26_5) rfl ?_
    show Steps p.tables e below (T22.setTop (mkF m 6 #[.val (.ref d1), .val (.int (0 : Int32)), .val (.int n1), .unset, .unset] [(.int n1)])) _
    refine XS.iloadN X22.here hx rfl (hb hby d26_6) rfl ?_
    show Steps p.tables e below (T22.setTop (mkF m 7 #[.val (.ref d1), .val (.int (0 : Int32)), .val (.int n1), .unset, .unset] [(.int (0 : Int32)), (.int n1)])) _
    refine XS.isub X22.here hx rfl (hb hby d26_7) rfl ?_
    show Steps p.tables e below (T22.setTop (mkF m 8 #[.val (.ref d1), .val (.int (0 : Int32)), .val (.int n1), .unset, .unset] [(.int (n1 - (0 : Int32)))])) _
    exact kt)
  have hv25 : (n1 - (0 : Int32)) = n1 := own_sub0 n1
  have pre25 : ∀ t, Steps p.tables e below (T22.setTop (mkF m 8 #[.val (.ref d1), .val (.int (0 : Int32)), .val (.int n1), .unset, .unset] [(.int n1)])) t → Steps p.tables e below (s₁.setTop (entryFrame m #[(.ref d1), (.int (0 : Int32)), (.int n1)] 5)) t := fun t kt => pre24 t (by rw [hv25]; exact kt)
  have pre26 : ∀ t, Steps p.tables e below (T22.setTop (mkF m 10 #[.val (.ref d1), .val (.int (0 : Int32)), .val (.int n1), .val (.int n1), .unset] [(.int n1)])) t → Steps p.tables e below (s₁.setTop (entryFrame m #[(.ref d1), (.int (0 : Int32)), (.int n1)] 5)) t := fun t kt => pre25 t (by
    refine XS.istoreN X22.here hx rfl (hb hby d26_8) rfl (l' := #[.val (.ref d1), .val (.int (0 : Int32)), .val (.int n1), .val (.int n1), .unset]) rfl ?_
    show Steps p.tables e below (T22.setTop (mkF m 9 #[.val (.ref d1), .val (.int (0 : Int32)), .val (.int n1), .val (.int n1), .unset] [])) _
    refine XS.iloadN X22.here hx rfl (hb hby d26_9) rfl ?_
    show Steps p.tables e below (T22.setTop (mkF m 10 #[.val (.ref d1), .val (.int (0 : Int32)), .val (.int n1), .val (.int n1), .unset] [(.int n1)])) _
    exact kt)
  obtain ⟨T27, h27, k27, X27, e27, E27, A27, st27⟩ := newP X22 hx hZ (hw _ (List.mem_of_getElem? (i := 19) rfl)) e22q (g := (mkF m 10 #[.val (.ref d1), .val (.int (0 : Int32)), .val (.int n1), .val (.int n1), .unset] [(.int n1)])) rfl (hb hby d26_10) rfl hn (cap := 13) hcap (by decide) (by decide) (by decide)
  obtain ⟨b27, g27⟩ : ∃ z, z = h0.size := ⟨_, rfl⟩
  rw [← g27] at A27 st27
  have ne28 : d1 ≠ b27 := Nat.ne_of_lt (Nat.lt_of_lt_of_le (V1).lt (Nat.le_of_eq g27.symm))
  have gz29 : n0 ≤ b27 := Nat.le_trans Z0 (Nat.le_of_eq g27.symm)
  have f31 := ((Keep.refl h0 [])).ext E27
  have f32 := (V1).ext E27
  have Zf33 : n0 ≤ h27.size := Nat.le_trans Z0 E27.1
  have szb : h0.size ≤ b27 := Nat.le_of_eq g27.symm
  have V27 : Arv Z h27 b27 k27 .byte n1 (List.replicate n1.toNatClampNeg (.int (0 : Int32))) (.int (0 : Int32)) := (Arv.new A27 hn).pad (pad_rep [] (.int (0 : Int32)) n1.toNatClampNeg)
  have pre34 : ∀ t, Steps p.tables e below (T27.setTop (mkF m 12 #[.val (.ref d1), .val (.int (0 : Int32)), .val (.int n1), .val (.int n1), .unset] [(.ref b27)])) t → Steps p.tables e below (s₁.setTop (entryFrame m #[(.ref d1), (.int (0 : Int32)), (.int n1)] 5)) t := fun t kt => pre26 t (st27 _ kt)
  have pre35 : ∀ t, Steps p.tables e below (T27.setTop (mkF m 20 #[.val (.ref d1), .val (.int (0 : Int32)), .val (.int n1), .val (.int n1), .val (.ref b27)] [(.ref d1), (.int (0 : Int32)), (.ref b27), (.int (0 : Int32)), (.ref d1)])) t → Steps p.tables e below (s₁.setTop (entryFrame m #[(.ref d1), (.int (0 : Int32)), (.int n1)] 5)) t := fun t kt => pre34 t (by
    refine XS.astore X27.here hx rfl (hb hby d26_12) rfl rfl (l' := #[.val (.ref d1), .val (.int (0 : Int32)), .val (.int n1), .val (.int n1), .val (.ref b27)]) rfl ?_
    show Steps p.tables e below (T27.setTop (mkF m 14 #[.val (.ref d1), .val (.int (0 : Int32)), .val (.int n1), .val (.int n1), .val (.ref b27)] [])) _
    refine XS.aloadN X27.here hx rfl (hb hby d26_14) rfl rfl ?_
    show Steps p.tables e below (T27.setTop (mkF m 15 #[.val (.ref d1), .val (.int (0 : Int32)), .val (.int n1), .val (.int n1), .val (.ref b27)] [(.ref d1)])) _
    refine XS.iloadN X27.here hx rfl (hb hby d26_15) rfl ?_
    show Steps p.tables e below (T27.setTop (mkF m 16 #[.val (.ref d1), .val (.int (0 : Int32)), .val (.int n1), .val (.int n1), .val (.ref b27)] [(.int (0 : Int32)), (.ref d1)])) _
    refine XS.aload X27.here hx rfl (hb hby d26_16) rfl rfl ?_
    show Steps p.tables e below (T27.setTop (mkF m 18 #[.val (.ref d1), .val (.int (0 : Int32)), .val (.int n1), .val (.int n1), .val (.ref b27)] [(.ref b27), (.int (0 : Int32)), (.ref d1)])) _
    refine XS.iconst X27.here hx rfl (hb hby d26_18) ?_
    show Steps p.tables e below (T27.setTop (mkF m 19 #[.val (.ref d1), .val (.int (0 : Int32)), .val (.int n1), .val (.int n1), .val (.ref b27)] [(.int (0 : Int32)), (.ref b27), (.int (0 : Int32)), (.ref d1)])) _
    refine XS.aloadN X27.here hx rfl (hb hby d26_19) rfl rfl ?_
    show Steps p.tables e below (T27.setTop (mkF m 20 #[.val (.ref d1), .val (.int (0 : Int32)), .val (.int n1), .val (.int n1), .val (.ref b27)] [(.ref d1), (.int (0 : Int32)), (.ref b27), (.int (0 : Int32)), (.ref d1)])) _
    exact kt)
  obtain ⟨cl36, Ar36, -, S36, M36, -⟩ := id (f32)
  have pre37 : ∀ t, Steps p.tables e below (T27.setTop (mkF m 24 #[.val (.ref d1), .val (.int (0 : Int32)), .val (.int n1), .val (.int n1), .val (.ref b27)] [(.int n1), (.int (16 : Int32)), (.int (0 : Int32)), (.ref b27), (.int (0 : Int32)), (.ref d1)])) t → Steps p.tables e below (s₁.setTop (entryFrame m #[(.ref d1), (.int (0 : Int32)), (.int n1)] 5)) t := fun t kt => pre35 t (by
    refine X27.arraylength hx (by rw [e27]; exact Ar36.1) (State.isArrayOf_alike hZ.alike Ar36.2.1) (g := (mkF m 20 #[.val (.ref d1), .val (.int (0 : Int32)), .val (.int n1), .val (.int n1), .val (.ref b27)] [(.ref d1), (.int (0 : Int32)), (.ref b27), (.int (0 : Int32)), (.ref d1)])) rfl rfl (hb hby d26_20) _ ?_
    rw [len_of S36 M36]
    show Steps p.tables e below (T27.setTop (mkF m 21 #[.val (.ref d1), .val (.int (0 : Int32)), .val (.int n1), .val (.int n1), .val (.ref b27)] [(.int (16 : Int32)), (.int (0 : Int32)), (.ref b27), (.int (0 : Int32)), (.ref d1)])) _
    refine XS.iloadN X27.here hx rfl (hb hby d26_21) rfl ?_
    show Steps p.tables e below (T27.setTop (mkF m 22 #[.val (.ref d1), .val (.int (0 : Int32)), .val (.int n1), .val (.int n1), .val (.ref b27)] [(.int (0 : Int32)), (.int (16 : Int32)), (.int (0 : Int32)), (.ref b27), (.int (0 : Int32)), (.ref d1)])) _
    refine XS.isub X27.here hx rfl (hb hby d26_22) rfl ?_
    show Steps p.tables e below (T27.setTop (mkF m 23 #[.val (.ref d1), .val (.int (0 : Int32)), .val (.int n1), .val (.int n1), .val (.ref b27)] [(.int (16 : Int32)), (.int (0 : Int32)), (.ref b27), (.int (0 : Int32)), (.ref d1)])) _
    refine XS.iloadN X27.here hx rfl (hb hby d26_23) rfl ?_
    show Steps p.tables e below (T27.setTop (mkF m 24 #[.val (.ref d1), .val (.int (0 : Int32)), .val (.int n1), .val (.int n1), .val (.ref b27)] [(.int n1), (.int (16 : Int32)), (.int (0 : Int32)), (.ref b27), (.int (0 : Int32)), (.ref d1)])) _
    exact kt)
  obtain ⟨_, _, ⟨T38, L38, k38, n38⟩, -, X38, ⟨Lc38, hQ38, l38, y38, z38⟩, st38⟩ := Jvm.LawKit.callS X27 hx (y := (⟨"java/lang/Math", "min", "(II)I"⟩ : MethodName)) hown (mvT hZ (hw _ (List.mem_of_getElem? (i := 157) rfl))) (mvT hZ (hw _ (List.mem_of_getElem? (i := 158) rfl))) (mvT hZ (hw _ (List.mem_of_getElem? (i := 159) rfl))) (mvT hZ (hw _ (List.mem_of_getElem? (i := 160) rfl))) (by decide) (backOf (W := 4) (rmTm l Z a0 hw [] n1 h27 n0 Zf33 h16) hZ (hw _ (List.mem_of_getElem? (i := 160) rfl)) (hw _ (List.mem_of_getElem? (i := 159) rfl)) (by decide) (by decide)) (g := (mkF m 24 #[.val (.ref d1), .val (.int (0 : Int32)), .val (.int n1), .val (.int n1), .val (.ref b27)] [(.int n1), (.int (16 : Int32)), (.int (0 : Int32)), (.ref b27), (.int (0 : Int32)), (.ref d1)])) rfl (by rw [hml]; rfl) (argsL := [(.int (16 : Int32)), (.int n1)]) (rest := [(.int (0 : Int32)), (.ref b27), (.int (0 : Int32)), (.ref d1)]) (lenOf pd__28II_29I rfl) rfl (by show 2 * 0 + _ ≤ _; exact Nat.le_of_eq rfl) (hb hby d26_24) (fun _ _ => ⟨rfl, e27, (by decide : 1 + 0 ≤ _), (by decide : 13 + 0 ≤ _)⟩)
  dsimp only [Pt.U, Pt.locs, Pt.cells, Pt.slots] at X38 l38 y38 z38 st38 hQ38
  subst l38 y38 z38
  obtain ⟨rfl, N38q, e38q⟩ := hQ38
  have N38 := Fr.app N22 N38q
  have pre39 : ∀ t, Steps p.tables e below (T38.setTop (mkF m 27 #[.val (.ref d1), .val (.int (0 : Int32)), .val (.int n1), .val (.int n1), .val (.ref b27)] [(.int n1), (.int (0 : Int32)), (.ref b27), (.int (0 : Int32)), (.ref d1)])) t → Steps p.tables e below (s₁.setTop (entryFrame m #[(.ref d1), (.int (0 : Int32)), (.int n1)] 5)) t := fun t kt => pre37 t (st38 _ kt)
  obtain ⟨T40, h40, L40, X40, e40, Nc40, K40, Vc40, st40⟩ := cpA X38 hx hZ hown (hw _ (List.mem_of_getElem? (i := 161) rfl)) (hw _ (List.mem_of_getElem? (i := 115) rfl)) (hw _ (List.mem_of_getElem? (i := 113) rfl)) (hw _ (List.mem_of_getElem? (i := 114) rfl)) e38q (f32) (V27) (sp := (0 : Int32)) (dp := (0 : Int32)) (nn := n1) (us := ((List.range n1.toNatClampNeg).map fun i => vd.getD (0 + i) (.int (0 : Int32)))) (Or.inl ⟨rfl, rfl⟩) (by decide) (by decide) hn (Nat.le_trans (Nat.le_of_eq (Nat.zero_add _)) (Nat.le_trans hcap (by decide))) (Nat.le_of_eq (Nat.zero_add _)) rfl (by rw [List.length_replicate]; exact Nat.le_of_eq (Nat.zero_add _)) N38 gz29 (g := (mkF m 27 #[.val (.ref d1), .val (.int (0 : Int32)), .val (.int n1), .val (.int n1), .val (.ref b27)] [(.int n1), (.int (0 : Int32)), (.ref b27), (.int (0 : Int32)), (.ref d1)])) rfl (by rw [hml]; rfl) rfl (hb hby d26_27) (by decide) (W := 0) (by show 2 * 0 + _ ≤ _; exact Nat.le_of_eq rfl) (by decide)
  subst e40
  have f41 := (f31).trans K40 (own_all1 ((Or.inr (Nat.le_trans ((Keep.refl h0 [])).1 (Nat.le_of_eq g27.symm)))))
  have f42 := (f32).keep K40 (own_notin1 ne28)
  have Zf43 : n0 ≤ T40.heap.size := Nat.le_trans Zf33 (K40).1
  have Vd40 : Arv Z T40.heap b27 k27 .byte n1 ((List.range n1.toNatClampNeg).map fun i => vd.getD (0 + i) (.int (0 : Int32))) (.int (0 : Int32)) := (own_toarv Vc40 (own_cp0 _ _ _))
  have pre44 : ∀ t, Steps p.tables e below (T40.setTop (mkF m 30 #[.val (.ref d1), .val (.int (0 : Int32)), .val (.int n1), .val (.int n1), .val (.ref b27)] [])) t → Steps p.tables e below (s₁.setTop (entryFrame m #[(.ref d1), (.int (0 : Int32)), (.int n1)] 5)) t := fun t kt => pre39 t (st40 _ kt)
  have pre45 : ∀ t, Steps p.tables e below (T40.setTop (mkF m 32 #[.val (.ref d1), .val (.int (0 : Int32)), .val (.int n1), .val (.int n1), .val (.ref b27)] [(.ref b27)])) t → Steps p.tables e below (s₁.setTop (entryFrame m #[(.ref d1), (.int (0 : Int32)), (.int n1)] 5)) t := fun t kt => pre44 t (by
    refine XS.aload X40.here hx rfl (hb hby d26_30) rfl rfl ?_
    show Steps p.tables e below (T40.setTop (mkF m 32 #[.val (.ref d1), .val (.int (0 : Int32)), .val (.int n1), .val (.int n1), .val (.ref b27)] [(.ref b27)])) _
    exact kt)
  obtain ⟨fs, hr, hrun, hended, hW, hsame⟩ := X40.leave (v := (some (.ref b27))) (fun h => by rw [Bd.returns] at h; cases h)
  refine ⟨_, _, pre45 _ ?_, hrun, hended, _, _, rfl, ?_, ⟨_, rfl⟩, hW, hsame.mono (by decide) (by decide)⟩
  · exact retOut X40 hx Bd.returns rfl (Or.inr (Or.inr (Or.inr (Or.inr ⟨rfl, rfl, rfl⟩)))) (hb hby d26_32) hr
  · show QrmTr Z vd n1 h0 n0 _ T40.heap _
    exact ⟨_, _, rfl, Nc40, f41, gz29, szb, Vd40⟩
theorem ef_rmTc (m : MethodId) (x0 : Addr) (x1 : Int32) (x2 : Int32) : entryFrame m #[(.ref x0), (.int x1), (.int x2)] 3 = mkF m 0 #[.val (.ref x0), .val (.int x1), .val (.int x2)] [] := by first | (simp [entryFrame, mkF, argsToLocals, Value.category]; done) | rfl
theorem d25_0 : decode jdk_65_method_132_code 0 = .ok (.iload_n 1, 1) := by decide +kernel
theorem d25_1 : decode jdk_65_method_132_code 1 = .ok (.ifCond .ne 9, 3) := by decide +kernel
theorem d25_4 : decode jdk_65_method_132_code 4 = .ok (.iload_n 2, 1) := by decide +kernel
theorem d25_5 : decode jdk_65_method_132_code 5 = .ok (.aload_n 0, 1) := by decide +kernel
theorem d25_6 : decode jdk_65_method_132_code 6 = .ok (.arraylength, 1) := by decide +kernel
theorem d25_7 : decode jdk_65_method_132_code 7 = .ok (.if_icmp .eq 10, 3) := by decide +kernel
theorem d25_10 : decode jdk_65_method_132_code 10 = .ok (.aload_n 0, 1) := by decide +kernel
theorem d25_11 : decode jdk_65_method_132_code 11 = .ok (.iload_n 1, 1) := by decide +kernel
theorem d25_12 : decode jdk_65_method_132_code 12 = .ok (.iload_n 2, 1) := by decide +kernel
theorem pd__28_5bBII_29_5bB : parseMethodDescriptor "([BII)[B" = some ⟨[(.array .byte), .int, .int], some (.array .byte)⟩ := by decide +kernel
theorem d25_13 : decode jdk_65_method_132_code 13 = .ok (.invokestatic 339, 3) := by decide +kernel
theorem d25_16 : decode jdk_65_method_132_code 16 = .ok (.areturn, 1) := by decide +kernel
set_option maxRecDepth 65536 in
set_option maxHeartbeats 40000000 in
theorem rmTc (l : Launch) (Z : State) (a0 : Array Value) (hw : ∀ d ∈ tables_1, d.before a0 Z = true) (ws : List Jvm.Cond) (d1 : Addr) (kd : ClassId) (vd : List Value) (n1 : Int32) (h0 : Heap) (n0 : Nat) (Z0 : n0 ≤ h0.size) (V1 : Arv Z h0 d1 kd .byte (16 : Int32) vd (.int (0 : Int32))) (hn : ¬ n1 < 0) (h16 : n1 < (16 : Int32)) (hcap : n1.toNatClampNeg ≤ 13) :
    MetFree l (⟨"java/util/Arrays", "copyOfRange", "([BII)[B"⟩ : MethodName) (head1 (Jvm.Cond.code (⟨"java/util/Arrays", "copyOfRange", "([BII)[B"⟩ : MethodName) jdk_65_method_132_code 3 (some (.array .byte)) :: ws) ({ frames := 2, cells := 1, slots := 13, locals := 34 } : Room)) (fun a U => a = #[(.ref d1), (.int (0 : Int32)), (.int n1)] ∧ Z.Warmed39 U.vm ∧ U.heap = h0) (fun _ _ _ _ _ => True) (fun _ U o U' => ∃ v L, o = .returned v ∧ QrmTr Z vd n1 h0 n0 v U'.heap L ∧ FrameEnd U o U' L ({ frames := 2, cells := 1, slots := 13, locals := 34 } : Room).cells ({ frames := 2, cells := 1, slots := 13, locals := 34 } : Room).slots) := by
  refine MetFree.of_bodySF (plainFor_of_name pn_java_util_Arrays) hisR ?_
  intro p e s m args below meth c s₁ Bd hml0 hP hK
  obtain ⟨rfl, hZ, hh⟩ := hP
  have hx := Bd.exec
  have hby := Bd.bytes
  have hml : c.maxLocals = 3 := hml0
  have hown : s.vm.findClass "java/util/Arrays" = some m.cls := findClass_of_methodNamed Bd.named
  have hnm := (name_of_methodNamed Bd.named Bd.method).1
  have X0 : Stand p l e ({ frames := 2, cells := 1, slots := 13, locals := 34 } : Room) s m #[(.ref d1), (.int (0 : Int32)), (.int n1)] below meth c s₁ [] 0 0 := Stand.of_body Bd
  have e0 : s₁.heap = h0 := by rw [← hh, Bd.state]; rfl
  have N0 := Fr.nil n0
  have pre0 : ∀ t, Steps p.tables e below (s₁.setTop (mkF m 0 #[.val (.ref d1), .val (.int (0 : Int32)), .val (.int n1)] [])) t → Steps p.tables e below (s₁.setTop (entryFrame m #[(.ref d1), (.int (0 : Int32)), (.int n1)] 3)) t := fun t kt => castTop (ef_rmTc m d1 (0 : Int32) n1) kt
  have pre21 : ∀ t, Steps p.tables e below (s₁.setTop (mkF m 6 #[.val (.ref d1), .val (.int (0 : Int32)), .val (.int n1)] [(.ref d1), (.int n1)])) t → Steps p.tables e below (s₁.setTop (entryFrame m #[(.ref d1), (.int (0 : Int32)), (.int n1)] 3)) t := fun t kt => pre0 t (by
    refine XS.iloadN X0.here hx rfl (hb hby d25_0) rfl ?_
    show Steps p.tables e below (s₁.setTop (mkF m 1 #[.val (.ref d1), .val (.int (0 : Int32)), .val (.int n1)] [(.int (0 : Int32))])) _
    refine XS.ifNo X0.here hx rfl (hb hby d25_1) rfl ((if0 _ _).trans (teq (by decide : (0 : Int32) = (0 : Int32))).2) ?_
    show Steps p.tables e below (s₁.setTop (mkF m 4 #[.val (.ref d1), .val (.int (0 : Int32)), .val (.int n1)] [])) _
    refine XS.iloadN X0.here hx rfl (hb hby d25_4) rfl ?_
    show Steps p.tables e below (s₁.setTop (mkF m 5 #[.val (.ref d1), .val (.int (0 : Int32)), .val (.int n1)] [(.int n1)])) _
    refine XS.aloadN X0.here hx rfl (hb hby d25_5) rfl rfl ?_
    show Steps p.tables e below (s₁.setTop (mkF m 6 #[.val (.ref d1), .val (.int (0 : Int32)), .val (.int n1)] [(.ref d1), (.int n1)])) _
    exact kt)
  obtain ⟨cl22, Ar22, -, S22, M22, -⟩ := id (V1)
  have pre23 : ∀ t, Steps p.tables e below (s₁.setTop (mkF m 13 #[.val (.ref d1), .val (.int (0 : Int32)), .val (.int n1)] [(.int n1), (.int (0 : Int32)), (.ref d1)])) t → Steps p.tables e below (s₁.setTop (entryFrame m #[(.ref d1), (.int (0 : Int32)), (.int n1)] 3)) t := fun t kt => pre21 t (by
    refine X0.arraylength hx (by rw [e0]; exact Ar22.1) (State.isArrayOf_alike hZ.alike Ar22.2.1) (g := (mkF m 6 #[.val (.ref d1), .val (.int (0 : Int32)), .val (.int n1)] [(.ref d1), (.int n1)])) rfl rfl (hb hby d25_6) _ ?_
    rw [len_of S22 M22]
    show Steps p.tables e below (s₁.setTop (mkF m 7 #[.val (.ref d1), .val (.int (0 : Int32)), .val (.int n1)] [(.int (16 : Int32)), (.int n1)])) _
    refine XS.icmpNo X0.here hx rfl (hb hby d25_7) rfl (feq (Int32.ne_of_lt h16 : ¬ (n1 = (16 : Int32)))).1 ?_
    show Steps p.tables e below (s₁.setTop (mkF m 10 #[.val (.ref d1), .val (.int (0 : Int32)), .val (.int n1)] [])) _
    refine XS.aloadN X0.here hx rfl (hb hby d25_10) rfl rfl ?_
    show Steps p.tables e below (s₁.setTop (mkF m 11 #[.val (.ref d1), .val (.int (0 : Int32)), .val (.int n1)] [(.ref d1)])) _
    refine XS.iloadN X0.here hx rfl (hb hby d25_11) rfl ?_
    show Steps p.tables e below (s₁.setTop (mkF m 12 #[.val (.ref d1), .val (.int (0 : Int32)), .val (.int n1)] [(.int (0 : Int32)), (.ref d1)])) _
    refine XS.iloadN X0.here hx rfl (hb hby d25_12) rfl ?_
    show Steps p.tables e below (s₁.setTop (mkF m 13 #[.val (.ref d1), .val (.int (0 : Int32)), .val (.int n1)] [(.int n1), (.int (0 : Int32)), (.ref d1)])) _
    exact kt)
  obtain ⟨_, _, ⟨T24, L24, k24, n24⟩, -, X24, ⟨Lc24, hQ24, l24, y24, z24⟩, st24⟩ := Jvm.LawKit.callS X0 hx (y := (⟨"java/util/Arrays", "copyOfRangeByte", "([BII)[B"⟩ : MethodName)) hown (mvT hZ (hw _ (List.mem_of_getElem? (i := 151) rfl))) (mvT hZ (hw _ (List.mem_of_getElem? (i := 152) rfl))) (mvT hZ (hw _ (List.mem_of_getElem? (i := 149) rfl))) (mvT hZ (hw _ (List.mem_of_getElem? (i := 153) rfl))) (by decide) (backOf (W := 0) (rmTr l Z a0 hw [] d1 _ _ n1 h0 n0 Z0 V1 hn h16 hcap) hZ (hw _ (List.mem_of_getElem? (i := 153) rfl)) (hw _ (List.mem_of_getElem? (i := 149) rfl)) (by decide) (by decide)) (g := (mkF m 13 #[.val (.ref d1), .val (.int (0 : Int32)), .val (.int n1)] [(.int n1), (.int (0 : Int32)), (.ref d1)])) rfl (by rw [hml]; rfl) (argsL := [(.ref d1), (.int (0 : Int32)), (.int n1)]) (rest := []) (lenOf pd__28_5bBII_29_5bB rfl) rfl (by show 2 * 0 + _ ≤ _; exact Nat.le_of_eq rfl) (hb hby d25_13) (fun _ _ => ⟨rfl, e0, (by decide : 0 + 1 ≤ _), (by decide : 0 + 13 ≤ _)⟩)
  dsimp only [Pt.U, Pt.locs, Pt.cells, Pt.slots] at X24 l24 y24 z24 st24 hQ24
  subst l24 y24 z24
  obtain ⟨b24, kb24, rfl, N24q, K24, gb24, sb24, Va24⟩ := hQ24
  have N24 := Fr.app N0 N24q
  have szd24 : h0.size ≤ b24 := Nat.le_trans ((Keep.refl h0 [])).1 sb24
  have ne25 : d1 ≠ b24 := Nat.ne_of_lt (Nat.lt_of_lt_of_le (V1).lt sb24)
  have sz26 := Nat.le_trans ((Keep.refl h0 [])).1 sb24
  have f27 := ((Keep.refl h0 [])).trans K24 (own_all0 )
  have f28 := (V1).keep K24 own_notin0
  have Zf29 : n0 ≤ T24.heap.size := Nat.le_trans Z0 (K24).1
  have pre30 : ∀ t, Steps p.tables e below (T24.setTop (mkF m 16 #[.val (.ref d1), .val (.int (0 : Int32)), .val (.int n1)] [(.ref b24)])) t → Steps p.tables e below (s₁.setTop (entryFrame m #[(.ref d1), (.int (0 : Int32)), (.int n1)] 3)) t := fun t kt => pre23 t (st24 _ kt)
  obtain ⟨fs, hr, hrun, hended, hW, hsame⟩ := X24.leave (v := (some (.ref b24))) (fun h => by rw [Bd.returns] at h; cases h)
  refine ⟨_, _, pre30 _ ?_, hrun, hended, _, _, rfl, ?_, ⟨_, rfl⟩, hW, hsame.mono (by decide) (by decide)⟩
  · exact retOut X24 hx Bd.returns rfl (Or.inr (Or.inr (Or.inr (Or.inr ⟨rfl, rfl, rfl⟩)))) (hb hby d25_16) hr
  · show QrmTr Z vd n1 h0 n0 _ T24.heap _
    exact ⟨_, _, rfl, N24, f27, gb24, szd24, Va24⟩
def QrmTi (Z : State) (b1 : Addr) (vd : List Value) (n1 : Int32) (h0 : Heap) (n0 : Nat) (v : Option Value) (h : Heap) (L : List Loc) : Prop := v = none ∧ Fr n0 L ∧ Keep h0 h [b1] ∧ Exa Z h b1 "java/lang/String" ∧ Fld Z h b1 "java/lang/String" "coder" "B" (.int (0 : Int32)) ∧ ∃ (t : Addr) (kt : ClassId), n0 ≤ t ∧ h0.size ≤ t ∧ Fld Z h b1 "java/lang/String" "value" "[B" (.ref t) ∧ Arv Z h t kt .byte n1 ((List.range n1.toNatClampNeg).map fun i => vd.getD (0 + i) (.int (0 : Int32))) (.int (0 : Int32))
theorem ef_rmTj (m : MethodId) (x0 : Addr) (x1 : Addr) : entryFrame m #[(.ref x0), (.ref x1), .null] 5 = mkF m 0 #[.val (.ref x0), .val (.ref x1), .val .null, .unset, .unset] [] := by first | (simp [entryFrame, mkF, argsToLocals, Value.category]; done) | rfl
theorem d20_0 : decode jdk_42_method_150_code 0 = .ok (.aload_n 0, 1) := by decide +kernel
theorem d20_1 : decode jdk_42_method_150_code 1 = .ok (.invokespecial 1, 3) := by decide +kernel
theorem d20_4 : decode jdk_42_method_150_code 4 = .ok (.aload_n 1, 1) := by decide +kernel
theorem pd__28_29_5bB : parseMethodDescriptor "()[B" = some ⟨[], some (.array .byte)⟩ := by decide +kernel
theorem d20_5 : decode jdk_42_method_150_code 5 = .ok (.invokevirtual 552, 3) := by decide +kernel
theorem d20_8 : decode jdk_42_method_150_code 8 = .ok (.astore_n 3, 1) := by decide +kernel
theorem d20_9 : decode jdk_42_method_150_code 9 = .ok (.aload_n 1, 1) := by decide +kernel
theorem d20_10 : decode jdk_42_method_150_code 10 = .ok (.invokevirtual 549, 3) := by decide +kernel
theorem d20_13 : decode jdk_42_method_150_code 13 = .ok (.istore 4, 2) := by decide +kernel
theorem d20_15 : decode jdk_42_method_150_code 15 = .ok (.aload_n 1, 1) := by decide +kernel
theorem pd__28_29Z : parseMethodDescriptor "()Z" = some ⟨[], some .boolean⟩ := by decide +kernel
theorem d20_16 : decode jdk_42_method_150_code 16 = .ok (.invokevirtual 1047, 3) := by decide +kernel
theorem d20_19 : decode jdk_42_method_150_code 19 = .ok (.ifCond .eq 22, 3) := by decide +kernel
theorem d20_22 : decode jdk_42_method_150_code 22 = .ok (.aload_n 0, 1) := by decide +kernel
theorem d20_23 : decode jdk_42_method_150_code 23 = .ok (.iconst 0, 1) := by decide +kernel
theorem d20_24 : decode jdk_42_method_150_code 24 = .ok (.putfield 15, 3) := by decide +kernel
theorem d20_27 : decode jdk_42_method_150_code 27 = .ok (.aload_n 0, 1) := by decide +kernel
theorem d20_28 : decode jdk_42_method_150_code 28 = .ok (.aload_n 3, 1) := by decide +kernel
theorem d20_29 : decode jdk_42_method_150_code 29 = .ok (.iconst 0, 1) := by decide +kernel
theorem d20_30 : decode jdk_42_method_150_code 30 = .ok (.iload 4, 2) := by decide +kernel
theorem d20_32 : decode jdk_42_method_150_code 32 = .ok (.invokestatic 54, 3) := by decide +kernel
theorem d20_35 : decode jdk_42_method_150_code 35 = .ok (.putfield 9, 3) := by decide +kernel
theorem d20_38 : decode jdk_42_method_150_code 38 = .ok (.goto 59, 3) := by decide +kernel
theorem d20_97 : decode jdk_42_method_150_code 97 = .ok (.return_, 1) := by decide +kernel
set_option maxRecDepth 65536 in
set_option maxHeartbeats 40000000 in
theorem rmTj (l : Launch) (Z : State) (a0 : Array Value) (hw : ∀ d ∈ tables_1, d.before a0 Z = true) (ws : List Jvm.Cond) (b1 a1 d1 : Addr) (kd : ClassId) (vd : List Value) (u1 u2 : Value) (n1 z0 : Int32) (h0 : Heap) (n0 : Nat) (Z0 : n0 ≤ h0.size) (E2 : Exa Z h0 b1 "java/lang/String") (g1 : n0 ≤ b1) (F4 : Fld Z h0 b1 "java/lang/String" "value" "[B" u1) (F5 : Fld Z h0 b1 "java/lang/String" "coder" "B" u2) (E1 : Exa Z h0 a1 "java/lang/StringBuilder") (F1 : Fld Z h0 a1 "java/lang/AbstractStringBuilder" "value" "[B" (.ref d1)) (F2 : Fld Z h0 a1 "java/lang/AbstractStringBuilder" "coder" "B" (.int (0 : Int32))) (F3 : Fld Z h0 a1 "java/lang/AbstractStringBuilder" "count" "I" (.int n1)) (V1 : Arv Z h0 d1 kd .byte (16 : Int32) vd (.int (0 : Int32))) (ne1 : d1 ≠ b1) (ne2 : a1 ≠ b1) (hn : ¬ n1 < 0) (h16 : n1 < (16 : Int32)) (hcap : n1.toNatClampNeg ≤ 13) (O0 : OldL Z n0 h0) (S0 : Sta Z Z.heap "java/lang/String" "COMPACT_STRINGS" "Z" (.int z0)) (hz : ¬ z0 = (0 : Int32)) :
    MetFree l (⟨"java/lang/String", "<init>", "(Ljava/lang/AbstractStringBuilder;Ljava/lang/Void;)V"⟩ : MethodName) (head1 (Jvm.Cond.code (⟨"java/lang/String", "<init>", "(Ljava/lang/AbstractStringBuilder;Ljava/lang/Void;)V"⟩ : MethodName) jdk_42_method_150_code 5 none :: ws) ({ frames := 3, cells := 1, slots := 13, locals := 49 } : Room)) (fun a U => a = #[(.ref b1), (.ref a1), .null] ∧ Z.Warmed39 U.vm ∧ U.heap = h0) (fun _ _ _ _ _ => True) (fun _ U o U' => ∃ v L, o = .returned v ∧ QrmTi Z b1 vd n1 h0 n0 v U'.heap L ∧ FrameEnd U o U' L ({ frames := 3, cells := 1, slots := 13, locals := 49 } : Room).cells ({ frames := 3, cells := 1, slots := 13, locals := 49 } : Room).slots) := by
  refine MetFree.of_bodySF (plainFor_of_name pn_java_lang_String) hisR ?_
  intro p e s m args below meth c s₁ Bd hml0 hP hK
  obtain ⟨rfl, hZ, hh⟩ := hP
  have hx := Bd.exec
  have hby := Bd.bytes
  have hml : c.maxLocals = 5 := hml0
  have hown : s.vm.findClass "java/lang/String" = some m.cls := findClass_of_methodNamed Bd.named
  have hnm := (name_of_methodNamed Bd.named Bd.method).1
  have X0 : Stand p l e ({ frames := 3, cells := 1, slots := 13, locals := 49 } : Room) s m #[(.ref b1), (.ref a1), .null] below meth c s₁ [] 0 0 := Stand.of_body Bd
  have e0 : s₁.heap = h0 := by rw [← hh, Bd.state]; rfl
  have N0 := Fr.nil n0
  have pre0 : ∀ t, Steps p.tables e below (s₁.setTop (mkF m 0 #[.val (.ref b1), .val (.ref a1), .val .null, .unset, .unset] [])) t → Steps p.tables e below (s₁.setTop (entryFrame m #[(.ref b1), (.ref a1), .null] 5)) t := fun t kt => castTop (ef_rmTj m b1 a1) kt
  have pre21 : ∀ t, Steps p.tables e below (s₁.setTop (mkF m 1 #[.val (.ref b1), .val (.ref a1), .val .null, .unset, .unset] [(.ref b1)])) t → Steps p.tables e below (s₁.setTop (entryFrame m #[(.ref b1), (.ref a1), .null] 5)) t := fun t kt => pre0 t (by
    refine XS.aloadN X0.here hx rfl (hb hby d20_0) rfl rfl ?_
    show Steps p.tables e below (s₁.setTop (mkF m 1 #[.val (.ref b1), .val (.ref a1), .val .null, .unset, .unset] [(.ref b1)])) _
    exact kt)
  obtain ⟨T22, X22, e22, st22⟩ := initO X0 hx hZ hown (hw _ (List.mem_of_getElem? (i := 15) rfl)) (hw _ (List.mem_of_getElem? (i := 16) rfl)) (hw _ (List.mem_of_getElem? (i := 17) rfl)) e0 (g := (mkF m 1 #[.val (.ref b1), .val (.ref a1), .val .null, .unset, .unset] [(.ref b1)])) rfl (by rw [hml]; rfl) rfl (hb hby d20_1) (by decide) (W := 0) (by show 2 * 0 + _ ≤ _; exact Nat.le_of_eq rfl) (by decide)
  have pre23 : ∀ t, Steps p.tables e below (T22.setTop (mkF m 4 #[.val (.ref b1), .val (.ref a1), .val .null, .unset, .unset] [])) t → Steps p.tables e below (s₁.setTop (entryFrame m #[(.ref b1), (.ref a1), .null] 5)) t := fun t kt => pre21 t (st22 _ kt)
  have pre24 : ∀ t, Steps p.tables e below (T22.setTop (mkF m 5 #[.val (.ref b1), .val (.ref a1), .val .null, .unset, .unset] [(.ref a1)])) t → Steps p.tables e below (s₁.setTop (entryFrame m #[(.ref b1), (.ref a1), .null] 5)) t := fun t kt => pre23 t (by
    refine XS.aloadN X22.here hx rfl (hb hby d20_4) rfl rfl ?_
    show Steps p.tables e below (T22.setTop (mkF m 5 #[.val (.ref b1), .val (.ref a1), .val .null, .unset, .unset] [(.ref a1)])) _
    exact kt)
  obtain ⟨cq25, kq25, q25a, q25b, q25c⟩ := isOf hZ e22 (E1)
  obtain ⟨_, _, ⟨T25, L25, k25, n25⟩, -, X25, ⟨Lc25, hQ25, l25, y25, z25⟩, st25⟩ := X22.virtualBack hx (y := (⟨"java/lang/AbstractStringBuilder", "getValue", "()[B"⟩ : MethodName)) (z := (⟨"java/lang/AbstractStringBuilder", "getValue", "()[B"⟩ : MethodName)) hown (mvT hZ (hw _ (List.mem_of_getElem? (i := 129) rfl))) (mvT hZ (hw _ (List.mem_of_getElem? (i := 130) rfl))) (notFace_of_selects (args := #[]) (mvT hZ (hw _ (List.mem_of_getElem? (i := 132) rfl)))) (mvT hZ (hw _ (List.mem_of_getElem? (i := 132) rfl))) (mvT hZ (hw _ (List.mem_of_getElem? (i := 131) rfl))) (by decide) (backOf (W := 0) (rmTv l Z a0 hw [] a1 d1 h0 n0 Z0 F1) hZ (hw _ (List.mem_of_getElem? (i := 133) rfl)) (hw _ (List.mem_of_getElem? (i := 60) rfl)) (by decide) (by decide)) q25a q25c (g := (mkF m 5 #[.val (.ref b1), .val (.ref a1), .val .null, .unset, .unset] [(.ref a1)])) rfl (by rw [hml]; rfl) (Steps.refl _) (argsL := []) (rest := []) (lenOf pd__28_29_5bB rfl) rfl (by show 2 * 0 + _ ≤ _; exact Nat.le_of_eq rfl) (hb hby d20_5) (fun _ _ => ⟨rfl, e22, (by decide : 0 + 0 ≤ _), (by decide : 0 + 0 ≤ _)⟩)
  dsimp only [Pt.U, Pt.locs, Pt.cells, Pt.slots] at X25 l25 y25 z25 st25 hQ25
  subst l25 y25 z25
  obtain ⟨rfl, N25q, e25q⟩ := hQ25
  have N25 := Fr.app N0 N25q
  have pre26 : ∀ t, Steps p.tables e below (T25.setTop (mkF m 8 #[.val (.ref b1), .val (.ref a1), .val .null, .unset, .unset] [(.ref d1)])) t → Steps p.tables e below (s₁.setTop (entryFrame m #[(.ref b1), (.ref a1), .null] 5)) t := fun t kt => pre24 t (st25.trans kt)
  have pre27 : ∀ t, Steps p.tables e below (T25.setTop (mkF m 10 #[.val (.ref b1), .val (.ref a1), .val .null, .val (.ref d1), .unset] [(.ref a1)])) t → Steps p.tables e below (s₁.setTop (entryFrame m #[(.ref b1), (.ref a1), .null] 5)) t := fun t kt => pre26 t (by
    refine XS.astoreN X25.here hx rfl (hb hby d20_8) rfl rfl (l' := #[.val (.ref b1), .val (.ref a1), .val .null, .val (.ref d1), .unset]) rfl ?_
    show Steps p.tables e below (T25.setTop (mkF m 9 #[.val (.ref b1), .val (.ref a1), .val .null, .val (.ref d1), .unset] [])) _
    refine XS.aloadN X25.here hx rfl (hb hby d20_9) rfl rfl ?_
    show Steps p.tables e below (T25.setTop (mkF m 10 #[.val (.ref b1), .val (.ref a1), .val .null, .val (.ref d1), .unset] [(.ref a1)])) _
    exact kt)
  obtain ⟨cq28, kq28, q28a, q28b, q28c⟩ := isOf hZ e25q (E1)
  obtain ⟨_, _, ⟨T28, L28, k28, n28⟩, -, X28, ⟨Lc28, hQ28, l28, y28, z28⟩, st28⟩ := X25.virtualBack hx (y := (⟨"java/lang/AbstractStringBuilder", "length", "()I"⟩ : MethodName)) (z := (⟨"java/lang/StringBuilder", "length", "()I"⟩ : MethodName)) hown (mvT hZ (hw _ (List.mem_of_getElem? (i := 134) rfl))) (mvT hZ (hw _ (List.mem_of_getElem? (i := 135) rfl))) (own_notface (y := (⟨"java/lang/AbstractStringBuilder", "length", "()I"⟩ : MethodName)) (mvT (args := #[]) hZ (hw _ (List.mem_of_getElem? (i := 131) rfl))) (mvT hZ (hw _ (List.mem_of_getElem? (i := 132) rfl))) rfl) (mvT hZ (hw _ (List.mem_of_getElem? (i := 137) rfl))) (mvT hZ (hw _ (List.mem_of_getElem? (i := 138) rfl))) (by decide) (backOf (W := 0) (rmTs l Z a0 hw [] a1 n1 h0 n0 Z0 E1 F3) hZ (hw _ (List.mem_of_getElem? (i := 139) rfl)) (hw _ (List.mem_of_getElem? (i := 52) rfl)) (by decide) (by decide)) q28a q28c (g := (mkF m 10 #[.val (.ref b1), .val (.ref a1), .val .null, .val (.ref d1), .unset] [(.ref a1)])) rfl (by rw [hml]; rfl) (Steps.refl _) (argsL := []) (rest := []) (lenOf pd__28_29I rfl) rfl (by show 2 * 0 + _ ≤ _; exact Nat.le_of_eq rfl) (hb hby d20_10) (fun _ _ => ⟨rfl, e25q, (by decide : 0 + 0 ≤ _), (by decide : 0 + 0 ≤ _)⟩)
  dsimp only [Pt.U, Pt.locs, Pt.cells, Pt.slots] at X28 l28 y28 z28 st28 hQ28
  subst l28 y28 z28
  obtain ⟨rfl, N28q, e28q⟩ := hQ28
  have N28 := Fr.app N25 N28q
  have pre29 : ∀ t, Steps p.tables e below (T28.setTop (mkF m 13 #[.val (.ref b1), .val (.ref a1), .val .null, .val (.ref d1), .unset] [(.int n1)])) t → Steps p.tables e below (s₁.setTop (entryFrame m #[(.ref b1), (.ref a1), .null] 5)) t := fun t kt => pre27 t (st28.trans kt)
  have pre30 : ∀ t, Steps p.tables e below (T28.setTop (mkF m 16 #[.val (.ref b1), .val (.ref a1), .val .null, .val (.ref d1), .val (.int n1)] [(.ref a1)])) t → Steps p.tables e below (s₁.setTop (entryFrame m #[(.ref b1), (.ref a1), .null] 5)) t := fun t kt => pre29 t (by
    refine XS.istore X28.here hx rfl (hb hby d20_13) rfl (l' := #[.val (.ref b1), .val (.ref a1), .val .null, .val (.ref d1), .val (.int n1)]) rfl ?_
    show Steps p.tables e below (T28.setTop (mkF m 15 #[.val (.ref b1), .val (.ref a1), .val .null, .val (.ref d1), .val (.int n1)] [])) _
    refine XS.aloadN X28.here hx rfl (hb hby d20_15) rfl rfl ?_
    show Steps p.tables e below (T28.setTop (mkF m 16 #[.val (.ref b1), .val (.ref a1), .val .null, .val (.ref d1), .val (.int n1)] [(.ref a1)])) _
    exact kt)
  obtain ⟨cq31, kq31, q31a, q31b, q31c⟩ := isOf hZ e28q (E1)
  obtain ⟨_, _, ⟨T31, L31, k31, n31⟩, -, X31, ⟨Lc31, hQ31, l31, y31, z31⟩, st31⟩ := X28.virtualBack hx (y := (⟨"java/lang/AbstractStringBuilder", "isLatin1", "()Z"⟩ : MethodName)) (z := (⟨"java/lang/AbstractStringBuilder", "isLatin1", "()Z"⟩ : MethodName)) hown (mvT hZ (hw _ (List.mem_of_getElem? (i := 142) rfl))) (mvT hZ (hw _ (List.mem_of_getElem? (i := 143) rfl))) (notFace_of_selects (args := #[]) (mvT hZ (hw _ (List.mem_of_getElem? (i := 145) rfl)))) (mvT hZ (hw _ (List.mem_of_getElem? (i := 145) rfl))) (mvT hZ (hw _ (List.mem_of_getElem? (i := 144) rfl))) (by decide) (backOf (W := 0) (rmTl l Z a0 hw [] a1 z0 h0 n0 Z0 F2 O0 S0 hz) hZ (hw _ (List.mem_of_getElem? (i := 146) rfl)) (hw _ (List.mem_of_getElem? (i := 60) rfl)) (by decide) (by decide)) q31a q31c (g := (mkF m 16 #[.val (.ref b1), .val (.ref a1), .val .null, .val (.ref d1), .val (.int n1)] [(.ref a1)])) rfl (by rw [hml]; rfl) (Steps.refl _) (argsL := []) (rest := []) (lenOf pd__28_29Z rfl) rfl (by show 2 * 0 + _ ≤ _; exact Nat.le_of_eq rfl) (hb hby d20_16) (fun _ _ => ⟨rfl, e28q, (by decide : 0 + 0 ≤ _), (by decide : 0 + 0 ≤ _)⟩)
  dsimp only [Pt.U, Pt.locs, Pt.cells, Pt.slots] at X31 l31 y31 z31 st31 hQ31
  subst l31 y31 z31
  obtain ⟨rfl, N31q, e31q⟩ := hQ31
  have N31 := Fr.app N28 N31q
  have pre32 : ∀ t, Steps p.tables e below (T31.setTop (mkF m 19 #[.val (.ref b1), .val (.ref a1), .val .null, .val (.ref d1), .val (.int n1)] [(.int (1 : Int32))])) t → Steps p.tables e below (s₁.setTop (entryFrame m #[(.ref b1), (.ref a1), .null] 5)) t := fun t kt => pre30 t (st31.trans kt)
  have pre33 : ∀ t, Steps p.tables e below (T31.setTop (mkF m 24 #[.val (.ref b1), .val (.ref a1), .val .null, .val (.ref d1), .val (.int n1)] [(.int (0 : Int32)), (.ref b1)])) t → Steps p.tables e below (s₁.setTop (entryFrame m #[(.ref b1), (.ref a1), .null] 5)) t := fun t kt => pre32 t (by
    refine XS.ifNo X31.here hx rfl (hb hby d20_19) rfl ((if0 _ _).trans (feq (by decide : ¬ ((1 : Int32) = (0 : Int32)))).1) ?_
    show Steps p.tables e below (T31.setTop (mkF m 22 #[.val (.ref b1), .val (.ref a1), .val .null, .val (.ref d1), .val (.int n1)] [])) _
    refine XS.aloadN X31.here hx rfl (hb hby d20_22) rfl rfl ?_
    show Steps p.tables e below (T31.setTop (mkF m 23 #[.val (.ref b1), .val (.ref a1), .val .null, .val (.ref d1), .val (.int n1)] [(.ref b1)])) _
    refine XS.iconst X31.here hx rfl (hb hby d20_23) ?_
    show Steps p.tables e below (T31.setTop (mkF m 24 #[.val (.ref b1), .val (.ref a1), .val .null, .val (.ref d1), .val (.int n1)] [(.int (0 : Int32)), (.ref b1)])) _
    exact kt)
  obtain ⟨T34, h34, X34, e34, W34, st34⟩ := putFN X31 hx hZ hown (hw _ (List.mem_of_getElem? (i := 25) rfl)) Via.refl e31q F5 E2 (Or.inr ⟨(hw _ (List.mem_of_getElem? (i := 21) rfl)), rfl, hnm⟩) (hw _ (List.mem_of_getElem? (i := 5) rfl)) (ty := .byte) (v' := (.int (0 : Int32))) (by decide) rfl rfl (g := (mkF m 24 #[.val (.ref b1), .val (.ref a1), .val .null, .val (.ref d1), .val (.int n1)] [(.int (0 : Int32)), (.ref b1)])) rfl rfl (hb hby d20_24)
  have f35 := ((Keep.refl h0 [b1])).wr W34 (Or.inl (List.mem_singleton.mpr rfl))
  have f36 := (O0).wr W34 g1
  have f37 := (E2).wr W34
  have f38 := (F4).other W34 (Or.inr (slot_ne (Or.inr (hw _ (List.mem_of_getElem? (i := 20) rfl))) (Or.inr (hw _ (List.mem_of_getElem? (i := 21) rfl))) (by decide) (t := (.array .byte)) (t' := .byte) (by decide) (by decide)))
  have f39 := (E1).wr W34
  have f40 := (F1).other W34 (Or.inl ne2)
  have f41 := (F2).other W34 (Or.inl ne2)
  have f42 := (F3).other W34 (Or.inl ne2)
  have f43 := (V1).other W34 ne1
  have Fw34 := (F5).same W34
  have Nf44 := Fr.snoc X34 N31 g1
  have Zf45 : n0 ≤ h34.size := Nat.le_trans Z0 (Keep.of_wr W34).1
  have pre46 : ∀ t, Steps p.tables e below (T34.setTop (mkF m 27 #[.val (.ref b1), .val (.ref a1), .val .null, .val (.ref d1), .val (.int n1)] [])) t → Steps p.tables e below (s₁.setTop (entryFrame m #[(.ref b1), (.ref a1), .null] 5)) t := fun t kt => pre33 t (st34 _ kt)
  have pre47 : ∀ t, Steps p.tables e below (T34.setTop (mkF m 32 #[.val (.ref b1), .val (.ref a1), .val .null, .val (.ref d1), .val (.int n1)] [(.int n1), (.int (0 : Int32)), (.ref d1), (.ref b1)])) t → Steps p.tables e below (s₁.setTop (entryFrame m #[(.ref b1), (.ref a1), .null] 5)) t := fun t kt => pre46 t (by
    refine XS.aloadN X34.here hx rfl (hb hby d20_27) rfl rfl ?_
    show Steps p.tables e below (T34.setTop (mkF m 28 #[.val (.ref b1), .val (.ref a1), .val .null, .val (.ref d1), .val (.int n1)] [(.ref b1)])) _
    refine XS.aloadN X34.here hx rfl (hb hby d20_28) rfl rfl ?_
    show Steps p.tables e below (T34.setTop (mkF m 29 #[.val (.ref b1), .val (.ref a1), .val .null, .val (.ref d1), .val (.int n1)] [(.ref d1), (.ref b1)])) _
    refine XS.iconst X34.here hx rfl (hb hby d20_29) ?_
    show Steps p.tables e below (T34.setTop (mkF m 30 #[.val (.ref b1), .val (.ref a1), .val .null, .val (.ref d1), .val (.int n1)] [(.int (0 : Int32)), (.ref d1), (.ref b1)])) _
    refine XS.iload X34.here hx rfl (hb hby d20_30) rfl ?_
    show Steps p.tables e below (T34.setTop (mkF m 32 #[.val (.ref b1), .val (.ref a1), .val .null, .val (.ref d1), .val (.int n1)] [(.int n1), (.int (0 : Int32)), (.ref d1), (.ref b1)])) _
    exact kt)
  obtain ⟨_, _, ⟨T48, L48, k48, n48⟩, -, X48, ⟨Lc48, hQ48, l48, y48, z48⟩, st48⟩ := Jvm.LawKit.callS X34 hx (y := (⟨"java/util/Arrays", "copyOfRange", "([BII)[B"⟩ : MethodName)) hown (mvT hZ (hw _ (List.mem_of_getElem? (i := 147) rfl))) (mvT hZ (hw _ (List.mem_of_getElem? (i := 148) rfl))) (mvT hZ (hw _ (List.mem_of_getElem? (i := 149) rfl))) (mvT hZ (hw _ (List.mem_of_getElem? (i := 150) rfl))) (by decide) (backOf (W := 1) (rmTc l Z a0 hw [] d1 _ _ n1 h34 n0 Zf45 f43 hn h16 hcap) hZ (hw _ (List.mem_of_getElem? (i := 150) rfl)) (hw _ (List.mem_of_getElem? (i := 149) rfl)) (by decide) (by decide)) (g := (mkF m 32 #[.val (.ref b1), .val (.ref a1), .val .null, .val (.ref d1), .val (.int n1)] [(.int n1), (.int (0 : Int32)), (.ref d1), (.ref b1)])) rfl (by rw [hml]; rfl) (argsL := [(.ref d1), (.int (0 : Int32)), (.int n1)]) (rest := [(.ref b1)]) (lenOf pd__28_5bBII_29_5bB rfl) rfl (by show 2 * 0 + _ ≤ _; exact Nat.le_of_eq rfl) (hb hby d20_32) (fun _ _ => ⟨rfl, e34, (by decide : 0 + 1 ≤ _), (by decide : 0 + 13 ≤ _)⟩)
  dsimp only [Pt.U, Pt.locs, Pt.cells, Pt.slots] at X48 l48 y48 z48 st48 hQ48
  subst l48 y48 z48
  obtain ⟨b48, kb48, rfl, N48q, K48, gb48, sb48, Va48⟩ := hQ48
  have N48 := Fr.app Nf44 N48q
  have szd48 : h0.size ≤ b48 := Nat.le_trans (f35).1 sb48
  have ne49 : a1 ≠ b48 := Nat.ne_of_lt (Nat.lt_of_lt_of_le (f39).lt sb48)
  have ne50 : b1 ≠ b48 := Nat.ne_of_lt (Nat.lt_of_lt_of_le (f37).lt sb48)
  have ne51 : d1 ≠ b48 := Nat.ne_of_lt (Nat.lt_of_lt_of_le (f43).lt sb48)
  have sz52 := Nat.le_trans (f35).1 sb48
  have f53 := (f35).trans K48 (own_all0 )
  have f54 := (f36).keep K48 (own_all0 )
  have f55 := (f37).keep K48
  have f56 := (f38).keep K48 own_notin0
  have f57 := (f39).keep K48
  have f58 := (f40).keep K48 own_notin0
  have f59 := (f41).keep K48 own_notin0
  have f60 := (f42).keep K48 own_notin0
  have f61 := (f43).keep K48 own_notin0
  have f62 := (Fw34).keep K48 own_notin0
  have Zf63 : n0 ≤ T48.heap.size := Nat.le_trans Zf45 (K48).1
  have pre64 : ∀ t, Steps p.tables e below (T48.setTop (mkF m 35 #[.val (.ref b1), .val (.ref a1), .val .null, .val (.ref d1), .val (.int n1)] [(.ref b48), (.ref b1)])) t → Steps p.tables e below (s₁.setTop (entryFrame m #[(.ref b1), (.ref a1), .null] 5)) t := fun t kt => pre47 t (st48 _ kt)
  obtain ⟨T65, h65, X65, e65, W65, st65⟩ := putF X48 hx hZ hown (host := "") (Or.inl (hw _ (List.mem_of_getElem? (i := 24) rfl))) Via.refl rfl f56 f55 (Or.inr ⟨(hw _ (List.mem_of_getElem? (i := 20) rfl)), rfl, hnm⟩) (hw _ (List.mem_of_getElem? (i := 5) rfl)) (ty := (.array .byte)) (by decide) rfl rfl (g := (mkF m 35 #[.val (.ref b1), .val (.ref a1), .val .null, .val (.ref d1), .val (.int n1)] [(.ref b48), (.ref b1)])) rfl rfl (hb hby d20_35)
  have f66 := (f53).wr W65 (Or.inl (List.mem_singleton.mpr rfl))
  have f67 := (f54).wr W65 g1
  have f68 := (f55).wr W65
  have f69 := (f57).wr W65
  have f70 := (f58).other W65 (Or.inl ne2)
  have f71 := (f59).other W65 (Or.inl ne2)
  have f72 := (f60).other W65 (Or.inl ne2)
  have f73 := (f61).other W65 ne1
  have f74 := (f62).other W65 (Or.inr (slot_ne (Or.inr (hw _ (List.mem_of_getElem? (i := 21) rfl))) (Or.inr (hw _ (List.mem_of_getElem? (i := 20) rfl))) (by decide) (t := .byte) (t' := (.array .byte)) (by decide) (by decide)))
  have f75 := (Va48).other W65 (Ne.symm ne50)
  have Fw65 := (f56).same W65
  have Nf76 := Fr.snoc X65 N48 g1
  have Zf77 : n0 ≤ h65.size := Nat.le_trans Zf63 (Keep.of_wr W65).1
  have pre78 : ∀ t, Steps p.tables e below (T65.setTop (mkF m 38 #[.val (.ref b1), .val (.ref a1), .val .null, .val (.ref d1), .val (.int n1)] [])) t → Steps p.tables e below (s₁.setTop (entryFrame m #[(.ref b1), (.ref a1), .null] 5)) t := fun t kt => pre64 t (st65 _ kt)
  have pre79 : ∀ t, Steps p.tables e below (T65.setTop (mkF m 97 #[.val (.ref b1), .val (.ref a1), .val .null, .val (.ref d1), .val (.int n1)] [])) t → Steps p.tables e below (s₁.setTop (entryFrame m #[(.ref b1), (.ref a1), .null] 5)) t := fun t kt => pre78 t (by
    refine XS.goto X65.here hx rfl (pc0 := 38) (pc' := 97) rfl (hb hby d20_38) (by decide) (by decide) ?_
    show Steps p.tables e below (T65.setTop (mkF m 97 #[.val (.ref b1), .val (.ref a1), .val .null, .val (.ref d1), .val (.int n1)] [])) _
    exact kt)
  obtain ⟨fs, hr, hrun, hended, hW, hsame⟩ := X65.leave (v := none) (fun _ => rfl)
  refine ⟨_, _, pre79 _ ?_, hrun, hended, _, _, rfl, ?_, ⟨_, rfl⟩, hW, hsame.mono (by decide) (by decide)⟩
  · exact X65.returnOut hx Bd.returns (hb hby d20_97) hr
  · show QrmTi Z b1 vd n1 h0 n0 _ T65.heap _
    rw [e65]
    exact ⟨rfl, Nf76, f66, f68, f74, b48, kb48, gb48, szd48, Fw65, f75⟩
theorem ef_rmTi (m : MethodId) (x0 : Addr) (x1 : Addr) : entryFrame m #[(.ref x0), (.ref x1)] 2 = mkF m 0 #[.val (.ref x0), .val (.ref x1)] [] := by first | (simp [entryFrame, mkF, argsToLocals, Value.category]; done) | rfl
theorem d19_0 : decode jdk_42_method_53_code 0 = .ok (.aload_n 0, 1) := by decide +kernel
theorem d19_1 : decode jdk_42_method_53_code 1 = .ok (.aload_n 1, 1) := by decide +kernel
theorem d19_2 : decode jdk_42_method_53_code 2 = .ok (.aconst_null, 1) := by decide +kernel
theorem pd__28Ljava_2flang_2fAbstractStringBuilder_3bLjava_2flang_2fVoid_3b_29V : parseMethodDescriptor "(Ljava/lang/AbstractStringBuilder;Ljava/lang/Void;)V" = some ⟨[(.object "java/lang/AbstractStringBuilder"), (.object "java/lang/Void")], none⟩ := by decide +kernel
theorem d19_3 : decode jdk_42_method_53_code 3 = .ok (.invokespecial 489, 3) := by decide +kernel
theorem d19_6 : decode jdk_42_method_53_code 6 = .ok (.return_, 1) := by decide +kernel
set_option maxRecDepth 65536 in
set_option maxHeartbeats 40000000 in
theorem rmTi (l : Launch) (Z : State) (a0 : Array Value) (hw : ∀ d ∈ tables_1, d.before a0 Z = true) (ws : List Jvm.Cond) (b1 a1 d1 : Addr) (kd : ClassId) (vd : List Value) (u1 u2 : Value) (n1 z0 : Int32) (h0 : Heap) (n0 : Nat) (Z0 : n0 ≤ h0.size) (E2 : Exa Z h0 b1 "java/lang/String") (g1 : n0 ≤ b1) (F4 : Fld Z h0 b1 "java/lang/String" "value" "[B" u1) (F5 : Fld Z h0 b1 "java/lang/String" "coder" "B" u2) (E1 : Exa Z h0 a1 "java/lang/StringBuilder") (F1 : Fld Z h0 a1 "java/lang/AbstractStringBuilder" "value" "[B" (.ref d1)) (F2 : Fld Z h0 a1 "java/lang/AbstractStringBuilder" "coder" "B" (.int (0 : Int32))) (F3 : Fld Z h0 a1 "java/lang/AbstractStringBuilder" "count" "I" (.int n1)) (V1 : Arv Z h0 d1 kd .byte (16 : Int32) vd (.int (0 : Int32))) (ne1 : d1 ≠ b1) (ne2 : a1 ≠ b1) (hn : ¬ n1 < 0) (h16 : n1 < (16 : Int32)) (hcap : n1.toNatClampNeg ≤ 13) (O0 : OldL Z n0 h0) (S0 : Sta Z Z.heap "java/lang/String" "COMPACT_STRINGS" "Z" (.int z0)) (hz : ¬ z0 = (0 : Int32)) :
    MetFree l (⟨"java/lang/String", "<init>", "(Ljava/lang/StringBuilder;)V"⟩ : MethodName) (head1 (Jvm.Cond.code (⟨"java/lang/String", "<init>", "(Ljava/lang/StringBuilder;)V"⟩ : MethodName) jdk_42_method_53_code 2 none :: ws) ({ frames := 4, cells := 1, slots := 13, locals := 65 } : Room)) (fun a U => a = #[(.ref b1), (.ref a1)] ∧ Z.Warmed39 U.vm ∧ U.heap = h0) (fun _ _ _ _ _ => True) (fun _ U o U' => ∃ v L, o = .returned v ∧ QrmTi Z b1 vd n1 h0 n0 v U'.heap L ∧ FrameEnd U o U' L ({ frames := 4, cells := 1, slots := 13, locals := 65 } : Room).cells ({ frames := 4, cells := 1, slots := 13, locals := 65 } : Room).slots) := by
  refine MetFree.of_bodySF (plainFor_of_name pn_java_lang_String) hisR ?_
  intro p e s m args below meth c s₁ Bd hml0 hP hK
  obtain ⟨rfl, hZ, hh⟩ := hP
  have hx := Bd.exec
  have hby := Bd.bytes
  have hml : c.maxLocals = 2 := hml0
  have hown : s.vm.findClass "java/lang/String" = some m.cls := findClass_of_methodNamed Bd.named
  have hnm := (name_of_methodNamed Bd.named Bd.method).1
  have X0 : Stand p l e ({ frames := 4, cells := 1, slots := 13, locals := 65 } : Room) s m #[(.ref b1), (.ref a1)] below meth c s₁ [] 0 0 := Stand.of_body Bd
  have e0 : s₁.heap = h0 := by rw [← hh, Bd.state]; rfl
  have N0 := Fr.nil n0
  have pre0 : ∀ t, Steps p.tables e below (s₁.setTop (mkF m 0 #[.val (.ref b1), .val (.ref a1)] [])) t → Steps p.tables e below (s₁.setTop (entryFrame m #[(.ref b1), (.ref a1)] 2)) t := fun t kt => castTop (ef_rmTi m b1 a1) kt
  have pre21 : ∀ t, Steps p.tables e below (s₁.setTop (mkF m 3 #[.val (.ref b1), .val (.ref a1)] [.null, (.ref a1), (.ref b1)])) t → Steps p.tables e below (s₁.setTop (entryFrame m #[(.ref b1), (.ref a1)] 2)) t := fun t kt => pre0 t (by
    refine XS.aloadN X0.here hx rfl (hb hby d19_0) rfl rfl ?_
    show Steps p.tables e below (s₁.setTop (mkF m 1 #[.val (.ref b1), .val (.ref a1)] [(.ref b1)])) _
    refine XS.aloadN X0.here hx rfl (hb hby d19_1) rfl rfl ?_
    show Steps p.tables e below (s₁.setTop (mkF m 2 #[.val (.ref b1), .val (.ref a1)] [(.ref a1), (.ref b1)])) _
    refine XS.aconstNull X0.here hx rfl (hb hby d19_2) ?_
    show Steps p.tables e below (s₁.setTop (mkF m 3 #[.val (.ref b1), .val (.ref a1)] [.null, (.ref a1), (.ref b1)])) _
    exact kt)
  obtain ⟨_, _, ⟨T22, L22, k22, n22⟩, -, X22, ⟨Lc22, hQ22, l22, y22, z22⟩, st22⟩ := X0.specialBack hx (y := (⟨"java/lang/String", "<init>", "(Ljava/lang/AbstractStringBuilder;Ljava/lang/Void;)V"⟩ : MethodName)) rfl hown (mvT hZ (hw _ (List.mem_of_getElem? (i := 126) rfl))) (mvT hZ (hw _ (List.mem_of_getElem? (i := 127) rfl))) (mvT hZ (hw _ (List.mem_of_getElem? (i := 128) rfl))) (by decide) (backOf (W := 0) (rmTj l Z a0 hw [] b1 a1 d1 _ _ _ _ n1 z0 h0 n0 Z0 E2 g1 F4 F5 E1 F1 F2 F3 V1 ne1 ne2 hn h16 hcap O0 S0 hz) hZ (hw _ (List.mem_of_getElem? (i := 128) rfl)) (hw _ (List.mem_of_getElem? (i := 6) rfl)) (by decide) (by decide)) (g := (mkF m 3 #[.val (.ref b1), .val (.ref a1)] [.null, (.ref a1), (.ref b1)])) rfl (by rw [hml]; rfl) (Steps.refl _) (a := b1) (argsL := [(.ref a1), .null]) (rest := []) (lenOf pd__28Ljava_2flang_2fAbstractStringBuilder_3bLjava_2flang_2fVoid_3b_29V rfl) rfl (by show 2 * 0 + _ ≤ _; exact Nat.le_of_eq rfl) (hb hby d19_3) (fun _ _ => ⟨rfl, e0, (by decide : 0 + 1 ≤ _), (by decide : 0 + 13 ≤ _)⟩)
  dsimp only [Pt.U, Pt.locs, Pt.cells, Pt.slots] at X22 l22 y22 z22 st22 hQ22
  subst l22 y22 z22
  obtain ⟨rfl, N22q, K22, E22x, Fc22, t22, kt22, gt22, sg22, Fv22, Va22⟩ := hQ22
  have N22 := Fr.app N0 N22q
  have szd22 : h0.size ≤ t22 := Nat.le_trans ((Keep.refl h0 [b1])).1 sg22
  have ne23 : a1 ≠ t22 := Nat.ne_of_lt (Nat.lt_of_lt_of_le (E1).lt sg22)
  have ne24 : b1 ≠ t22 := Nat.ne_of_lt (Nat.lt_of_lt_of_le (E2).lt sg22)
  have ne25 : d1 ≠ t22 := Nat.ne_of_lt (Nat.lt_of_lt_of_le (V1).lt sg22)
  have sz26 := Nat.le_trans ((Keep.refl h0 [b1])).1 sg22
  have f27 := ((Keep.refl h0 [b1])).trans K22 (own_all1 (Or.inl (List.mem_singleton.mpr rfl)))
  have f28 := (O0).keep K22 (own_all1 g1)
  have f29 := (E2).keep K22
  have f30 := (E1).keep K22
  have f31 := (F1).keep K22 (own_notin1 ne2)
  have f32 := (F2).keep K22 (own_notin1 ne2)
  have f33 := (F3).keep K22 (own_notin1 ne2)
  have f34 := (V1).keep K22 (own_notin1 ne1)
  have Zf35 : n0 ≤ T22.heap.size := Nat.le_trans Z0 (K22).1
  have pre36 : ∀ t, Steps p.tables e below (T22.setTop (mkF m 6 #[.val (.ref b1), .val (.ref a1)] [])) t → Steps p.tables e below (s₁.setTop (entryFrame m #[(.ref b1), (.ref a1)] 2)) t := fun t kt => pre21 t (st22.trans kt)
  obtain ⟨fs, hr, hrun, hended, hW, hsame⟩ := X22.leave (v := none) (fun _ => rfl)
  refine ⟨_, _, pre36 _ ?_, hrun, hended, _, _, rfl, ?_, ⟨_, rfl⟩, hW, hsame.mono (by decide) (by decide)⟩
  · exact X22.returnOut hx Bd.returns (hb hby d19_6) hr
  · show QrmTi Z b1 vd n1 h0 n0 _ T22.heap _
    exact ⟨rfl, N22, f27, f29, Fc22, t22, kt22, gt22, szd22, Fv22, Va22⟩
def QrmTo (Z : State) (vd : List Value) (n1 : Int32) (h0 : Heap) (n0 : Nat) (v : Option Value) (h : Heap) (L : List Loc) : Prop := ∃ (b t : Addr) (kt : ClassId), v = some (.ref b) ∧ Fr n0 L ∧ Keep h0 h [] ∧ n0 ≤ b ∧ h0.size ≤ b ∧ n0 ≤ t ∧ h0.size ≤ t ∧ t ≠ b ∧ Exa Z h b "java/lang/String" ∧ Fld Z h b "java/lang/String" "value" "[B" (.ref t) ∧ Fld Z h b "java/lang/String" "coder" "B" (.int (0 : Int32)) ∧ Arv Z h t kt .byte n1 ((List.range n1.toNatClampNeg).map fun i => vd.getD (0 + i) (.int (0 : Int32))) (.int (0 : Int32))
theorem ef_rmTo (m : MethodId) (x0 : Addr) : entryFrame m #[(.ref x0)] 1 = mkF m 0 #[.val (.ref x0)] [] := by first | (simp [entryFrame, mkF, argsToLocals, Value.category]; done) | rfl
theorem d18_0 : decode jdk_67_method_42_code 0 = .ok (.new 18, 3) := by decide +kernel
theorem d18_3 : decode jdk_67_method_42_code 3 = .ok (.dup, 1) := by decide +kernel
theorem d18_4 : decode jdk_67_method_42_code 4 = .ok (.aload_n 0, 1) := by decide +kernel
theorem pd__28Ljava_2flang_2fStringBuilder_3b_29V : parseMethodDescriptor "(Ljava/lang/StringBuilder;)V" = some ⟨[(.object "java/lang/StringBuilder")], none⟩ := by decide +kernel
theorem d18_5 : decode jdk_67_method_42_code 5 = .ok (.invokespecial 137, 3) := by decide +kernel
theorem d18_8 : decode jdk_67_method_42_code 8 = .ok (.areturn, 1) := by decide +kernel
set_option maxRecDepth 65536 in
set_option maxHeartbeats 40000000 in
theorem rmTo (l : Launch) (Z : State) (a0 : Array Value) (hw : ∀ d ∈ tables_1, d.before a0 Z = true) (ws : List Jvm.Cond) (a1 d1 : Addr) (kd : ClassId) (vd : List Value) (n1 z0 : Int32) (h0 : Heap) (n0 : Nat) (Z0 : n0 ≤ h0.size) (E1 : Exa Z h0 a1 "java/lang/StringBuilder") (F1 : Fld Z h0 a1 "java/lang/AbstractStringBuilder" "value" "[B" (.ref d1)) (F2 : Fld Z h0 a1 "java/lang/AbstractStringBuilder" "coder" "B" (.int (0 : Int32))) (F3 : Fld Z h0 a1 "java/lang/AbstractStringBuilder" "count" "I" (.int n1)) (V1 : Arv Z h0 d1 kd .byte (16 : Int32) vd (.int (0 : Int32))) (hn : ¬ n1 < 0) (h16 : n1 < (16 : Int32)) (hcap : n1.toNatClampNeg ≤ 13) (O0 : OldL Z n0 h0) (S0 : Sta Z Z.heap "java/lang/String" "COMPACT_STRINGS" "Z" (.int z0)) (hz : ¬ z0 = (0 : Int32)) :
    MetFree l (⟨"java/lang/StringBuilder", "toString", "()Ljava/lang/String;"⟩ : MethodName) (head1 (Jvm.Cond.code (⟨"java/lang/StringBuilder", "toString", "()Ljava/lang/String;"⟩ : MethodName) jdk_67_method_42_code 1 (some (.object "java/lang/String")) :: ws) ({ frames := 5, cells := 2, slots := 17, locals := 79 } : Room)) (fun a U => a = #[(.ref a1)] ∧ Z.Warmed39 U.vm ∧ U.heap = h0) (fun _ _ _ _ _ => True) (fun _ U o U' => ∃ v L, o = .returned v ∧ QrmTo Z vd n1 h0 n0 v U'.heap L ∧ FrameEnd U o U' L ({ frames := 5, cells := 2, slots := 17, locals := 79 } : Room).cells ({ frames := 5, cells := 2, slots := 17, locals := 79 } : Room).slots) := by
  refine MetFree.of_bodySF (plainFor_of_name pn_java_lang_StringBuilder) hisR ?_
  intro p e s m args below meth c s₁ Bd hml0 hP hK
  obtain ⟨rfl, hZ, hh⟩ := hP
  have hx := Bd.exec
  have hby := Bd.bytes
  have hml : c.maxLocals = 1 := hml0
  have hown : s.vm.findClass "java/lang/StringBuilder" = some m.cls := findClass_of_methodNamed Bd.named
  have hnm := (name_of_methodNamed Bd.named Bd.method).1
  have X0 : Stand p l e ({ frames := 5, cells := 2, slots := 17, locals := 79 } : Room) s m #[(.ref a1)] below meth c s₁ [] 0 0 := Stand.of_body Bd
  have e0 : s₁.heap = h0 := by rw [← hh, Bd.state]; rfl
  have N0 := Fr.nil n0
  have pre0 : ∀ t, Steps p.tables e below (s₁.setTop (mkF m 0 #[.val (.ref a1)] [])) t → Steps p.tables e below (s₁.setTop (entryFrame m #[(.ref a1)] 1)) t := fun t kt => castTop (ef_rmTo m a1) kt
  obtain ⟨T21, h21, X21, e21, E21, A21, D21, -, st21⟩ := newO X0 hx hZ hown (hw _ (List.mem_of_getElem? (i := 122) rfl)) (hw _ (List.mem_of_getElem? (i := 5) rfl)) (hw _ (List.mem_of_getElem? (i := 6) rfl)) e0 (g := (mkF m 0 #[.val (.ref a1)] [])) rfl (hb hby d18_0) (by decide) (by decide)
  obtain ⟨b21, g21⟩ : ∃ z, z = h0.size := ⟨_, rfl⟩
  rw [← g21] at A21 D21 st21
  have ne22 : a1 ≠ b21 := Nat.ne_of_lt (Nat.lt_of_lt_of_le (E1).lt (Nat.le_of_eq g21.symm))
  have ne23 : d1 ≠ b21 := Nat.ne_of_lt (Nat.lt_of_lt_of_le (V1).lt (Nat.le_of_eq g21.symm))
  have gz24 : n0 ≤ b21 := Nat.le_trans Z0 (Nat.le_of_eq g21.symm)
  have f26 := (O0).ext E21
  have f27 := ((Keep.refl h0 [])).ext E21
  have f28 := (E1).ext E21
  have f29 := (F1).ext E21
  have f30 := (F2).ext E21
  have f31 := (F3).ext E21
  have f32 := (V1).ext E21
  have Zf33 : n0 ≤ h21.size := Nat.le_trans Z0 E21.1
  have szb : h0.size ≤ b21 := Nat.le_of_eq g21.symm
  have F21_value : Fld Z h21 b21 "java/lang/String" "value" "[B" .null := D21 (Or.inr (hw _ (List.mem_of_getElem? (i := 20) rfl))) (ty := (.array .byte)) (by decide)
  have F21_coder : Fld Z h21 b21 "java/lang/String" "coder" "B" (.int (0 : Int32)) := D21 (Or.inr (hw _ (List.mem_of_getElem? (i := 21) rfl))) (ty := .byte) (by decide)
  have pre34 : ∀ t, Steps p.tables e below (T21.setTop (mkF m 3 #[.val (.ref a1)] [(.ref b21)])) t → Steps p.tables e below (s₁.setTop (entryFrame m #[(.ref a1)] 1)) t := fun t kt => pre0 t (st21 _ kt)
  have pre35 : ∀ t, Steps p.tables e below (T21.setTop (mkF m 5 #[.val (.ref a1)] [(.ref a1), (.ref b21), (.ref b21)])) t → Steps p.tables e below (s₁.setTop (entryFrame m #[(.ref a1)] 1)) t := fun t kt => pre34 t (by
    refine XS.dup X21.here hx rfl (hb hby d18_3) rfl rfl ?_
    show Steps p.tables e below (T21.setTop (mkF m 4 #[.val (.ref a1)] [(.ref b21), (.ref b21)])) _
    refine XS.aloadN X21.here hx rfl (hb hby d18_4) rfl rfl ?_
    show Steps p.tables e below (T21.setTop (mkF m 5 #[.val (.ref a1)] [(.ref a1), (.ref b21), (.ref b21)])) _
    exact kt)
  obtain ⟨_, _, ⟨T36, L36, k36, n36⟩, -, X36, ⟨Lc36, hQ36, l36, y36, z36⟩, st36⟩ := X21.specialBack hx (y := (⟨"java/lang/String", "<init>", "(Ljava/lang/StringBuilder;)V"⟩ : MethodName)) rfl hown (mvT hZ (hw _ (List.mem_of_getElem? (i := 123) rfl))) (mvT hZ (hw _ (List.mem_of_getElem? (i := 124) rfl))) (mvT hZ (hw _ (List.mem_of_getElem? (i := 125) rfl))) (by decide) (backOf (W := 1) (rmTi l Z a0 hw [] b21 a1 d1 _ _ _ _ n1 z0 h21 n0 Zf33 A21 gz24 F21_value F21_coder f28 f29 f30 f31 f32 ne23 ne22 hn h16 hcap f26 S0 hz) hZ (hw _ (List.mem_of_getElem? (i := 125) rfl)) (hw _ (List.mem_of_getElem? (i := 6) rfl)) (by decide) (by decide)) (g := (mkF m 5 #[.val (.ref a1)] [(.ref a1), (.ref b21), (.ref b21)])) rfl (by rw [hml]; rfl) (Steps.refl _) (a := b21) (argsL := [(.ref a1)]) (rest := [(.ref b21)]) (lenOf pd__28Ljava_2flang_2fStringBuilder_3b_29V rfl) rfl (by show 2 * 0 + _ ≤ _; exact Nat.le_of_eq rfl) (hb hby d18_5) (fun _ _ => ⟨rfl, e21, (by decide : 1 + 1 ≤ _), (by decide : 4 + 13 ≤ _)⟩)
  dsimp only [Pt.U, Pt.locs, Pt.cells, Pt.slots] at X36 l36 y36 z36 st36 hQ36
  subst l36 y36 z36
  obtain ⟨rfl, N36q, K36, E36x, Fc36, t36, kt36, gt36, sg36, Fv36, Va36⟩ := hQ36
  have N36 := Fr.app N0 N36q
  have szd36 : h0.size ≤ t36 := Nat.le_trans (f27).1 sg36
  have ne37 : a1 ≠ t36 := Nat.ne_of_lt (Nat.lt_of_lt_of_le (f28).lt sg36)
  have ne38 : b21 ≠ t36 := Nat.ne_of_lt (Nat.lt_of_lt_of_le (A21).lt sg36)
  have ne39 : d1 ≠ t36 := Nat.ne_of_lt (Nat.lt_of_lt_of_le (f32).lt sg36)
  have sz40 := Nat.le_trans (f27).1 sg36
  have f41 := (f26).keep K36 (own_all1 gz24)
  have f42 := (f27).trans K36 (own_all1 ((Or.inr (Nat.le_trans ((Keep.refl h0 [])).1 (Nat.le_of_eq g21.symm)))))
  have f43 := (f28).keep K36
  have f44 := (f29).keep K36 (own_notin1 ne22)
  have f45 := (f30).keep K36 (own_notin1 ne22)
  have f46 := (f31).keep K36 (own_notin1 ne22)
  have f47 := (f32).keep K36 (own_notin1 ne23)
  have f48 := (A21).keep K36
  have Zf49 : n0 ≤ T36.heap.size := Nat.le_trans Zf33 (K36).1
  have pre50 : ∀ t, Steps p.tables e below (T36.setTop (mkF m 8 #[.val (.ref a1)] [(.ref b21)])) t → Steps p.tables e below (s₁.setTop (entryFrame m #[(.ref a1)] 1)) t := fun t kt => pre35 t (st36.trans kt)
  obtain ⟨fs, hr, hrun, hended, hW, hsame⟩ := X36.leave (v := (some (.ref b21))) (fun h => by rw [Bd.returns] at h; cases h)
  refine ⟨_, _, pre50 _ ?_, hrun, hended, _, _, rfl, ?_, ⟨_, rfl⟩, hW, hsame.mono (by decide) (by decide)⟩
  · exact retOut X36 hx Bd.returns rfl (Or.inr (Or.inr (Or.inr (Or.inr ⟨rfl, rfl, rfl⟩)))) (hb hby d18_8) hr
  · show QrmTo Z vd n1 h0 n0 _ T36.heap _
    exact ⟨_, _, _, rfl, N36, f42, gz24, szb, gt36, szd36, (Ne.symm ne38), f48, Fv36, Fc36, Va36⟩
namespace OwnThr
open Jvm.Lib.Cold Jvm.Free.Str Jvm.Free.Exc LibCode.Throwable
abbrev UE : String := "kakehashi/cli/UsageException"
def wds : List Jvm.Cond := [.native tFill0, .initialized tN, .superclass tN "java/lang/Object", .instanceMethod tFill, .codeSync tFill Fill.code 1 (some (.object tN)), .instanceMethod tFill0, .instanceMethod oInit, .code oInit ⟨#[0xb1]⟩ 1 none,
  .methodLink tN 1 oInit, .methodLink tN 27 tFill, .methodLink tN 202 tFill0, .fieldLink tN 7 tN "cause" thD, .lays tN tN "cause" thD, .fieldLink tN 17 tN "stackTrace" steD, .lays tN tN "stackTrace" steD, .fieldLink tN 24 tN "suppressedExceptions" listD,
  .lays UE tN "suppressedExceptions" listD, .fieldLink tN 13 tN "UNASSIGNED_STACK" steD, .laysStatic tN "UNASSIGNED_STACK" steD, .fieldLink tN 20 tN "SUPPRESSED_SENTINEL" listD, .laysStatic tN "SUPPRESSED_SENTINEL" listD, .lays tN tN "detailMessage" msgD,
  .selects UE tFill0 tFill0, .lays UE tN "stackTrace" steD, .fieldLink tN 198 tN "backtrace" obD, .lays tN tN "backtrace" obD, .lays UE tN "backtrace" obD, .lays UE tN "depth" "I", .soleField tN "backtrace", .soleField tN "depth", .arrayOver (.object "java/lang/Object"), .instantiable UE 6]
theorem wds_in : ∀ d ∈ wds, d ∈ tables_1 := by decide +kernel
theorem wds_ok : wds.all xOk = true := by decide +kernel
theorem laid {args : Array Value} {s : State} {pl : Platform} (howns : pl.frameOwnsMonitors = true) (hfin : pl.finalization = false) (hpl : pl.magicAccessors = ({} : Platform).magicAccessors) (W : ∀ d ∈ wds, d.before args s = true) :
    ∃ T : ThrowableC, T.Links pl s ∧ s.vm.findClass tN = some T.cT ∧ s.methodNamed? tFill = some T.fill ∧ s.methodNamed? tFill0 = some T.fill0 ∧ s.fieldFound? tN "stackTrace" steD = some (T.cT, T.kT, T.i17, T.fStack) ∧ T.fStack.type = .array (.object "java/lang/StackTraceElement") ∧ s.fieldFound? tN "UNASSIGNED_STACK" steD = some (T.cT, T.kT, T.i13, T.fUnassigned) := by
  have w : ∀ {d : Jvm.Cond} (i : Nat), wds[i]? = some d → d.holds args s none s [] = true := fun i q => W _ (List.mem_of_getElem? q)
  obtain ⟨⟨c, j⟩, mN, n1, n2, n3, n4, n5, n6⟩ := Cond.native_spec (x := tFill0) (w 0 rfl)
  have fc : s.vm.findClass tN = some c := findClass_of_methodNamed n1
  obtain ⟨k, fk, knm⟩ := Vm.findClass_spec fc
  obtain ⟨_, k', _, _, s2, _, _, s5, _, s7⟩ := Cond.superclass_spec fc (w (d := .superclass tN "java/lang/Object") 2 rfl)
  obtain rfl : k = k' := Option.some.inj (fk.symm.trans s2)
  obtain ⟨jF, mF, f1, f2, f3, f4, f5, -, -⟩ := Cond.ownMethod (x := tFill) fc fk (w 3 rfl)
  obtain ⟨mF', cF, g1, g2, g3, g4, g5, g6, -, g8⟩ := Cond.codeSync_spec f1 (w (d := .codeSync tFill Fill.code 1 (some (.object tN))) 4 rfl)
  obtain rfl : mF = mF' := Option.some.inj (f2.symm.trans g1)
  obtain ⟨jN, mN', o1, o2, o3, o4, o5, o6, o7⟩ := Cond.ownMethod (x := tFill0) fc fk (w 5 rfl)
  obtain rfl : j = jN := by have := Option.some.inj (n1.symm.trans o1); simpa using this
  obtain rfl : mN = mN' := Option.some.inj (n2.symm.trans o2)
  obtain ⟨mo, mO, p1, p2, p3, p4⟩ := Cond.instanceMethod_spec (x := oInit) (w 6 rfl)
  obtain ⟨mO', cO, q1, q2, q3, q4, -, q6, -, q8⟩ := Cond.code_spec p1 (w (d := .code oInit ⟨#[0xb1]⟩ 1 none) 7 rfl)
  obtain rfl : mO = mO' := Option.some.inj (p2.symm.trans q1)
  obtain ⟨kO, r1, r2⟩ := Vm.findClass_spec (findClass_of_methodNamed p1)
  obtain ⟨r3, r4⟩ := name_of_methodNamed p1 p2
  obtain ⟨a1, b1, cf, l1, m1, z1, y1⟩ := Cond.linkedMethod fc fk p1 (w (d := .methodLink tN 1 oInit) 8 rfl) pl hpl
  obtain ⟨a2, b2, cf2, l2, m2, z2, y2⟩ := Cond.linkedMethod fc fk f1 (w (d := .methodLink tN 27 tFill) 9 rfl) pl hpl
  obtain rfl : cf = cf2 := Option.some.inj (z1.symm.trans z2)
  obtain ⟨a3, b3, cf3, l3, m3, z3, y3⟩ := Cond.linkedMethod fc fk n1 (w (d := .methodLink tN 202 tFill0) 10 rfl) pl hpl
  obtain rfl : cf = cf3 := Option.some.inj (z1.symm.trans z3)
  obtain ⟨ca, ia, fa, u1, u2, u3, u4, u5, u6, u7, u8⟩ := Cond.ownField (t := .object tN) fc fk (by decide +kernel) (w (d := .fieldLink tN 7 tN "cause" thD) 11 rfl) (w (d := .lays tN tN "cause" thD) 12 rfl) pl hpl
  obtain ⟨cb, ib, fb, v1, v2, v3, v4, v5, v6, v7, v8⟩ := Cond.ownField (t := .array (.object "java/lang/StackTraceElement")) fc fk (by decide +kernel) (w (d := .fieldLink tN 17 tN "stackTrace" steD) 13 rfl) (w (d := .lays tN tN "stackTrace" steD) 14 rfl) pl hpl
  obtain ⟨cd, id_, fd, x1, x2, x3, x4, x5, x6, x7, x8⟩ := Cond.ownField (t := .object "java/util/List") fc fk (by decide +kernel) (w (d := .fieldLink tN 24 tN "suppressedExceptions" listD) 15 rfl) (w (d := .lays UE tN "suppressedExceptions" listD) 16 rfl) pl hpl
  obtain ⟨ce, ie, fe, aS, cS, e1, e2, e3, e4, -, -, e7, e8, e9, -, -, e12⟩ := Cond.ownStatic (t := .array (.object "java/lang/StackTraceElement")) fc fk (by decide +kernel) (w (d := .fieldLink tN 13 tN "UNASSIGNED_STACK" steD) 17 rfl) (w (d := .laysStatic tN "UNASSIGNED_STACK" steD) 18 rfl) pl hpl
  obtain ⟨cg, ig, fg, _, _, i1, i2, i3, i4, -⟩ := Cond.ownStatic (t := .object "java/util/List") fc fk (by decide +kernel) (w (d := .fieldLink tN 20 tN "SUPPRESSED_SENTINEL" listD) 19 rfl) (w (d := .laysStatic tN "SUPPRESSED_SENTINEL" listD) 20 rfl) pl hpl
  obtain ⟨_, _, _, _, _, fm, _, _, h3, h4, h5, -⟩ := Cond.lays_spec (w (d := .lays tN tN "detailMessage" msgD) 21 rfl)
  obtain ⟨cX, kX, _, _, _, ft, t1, t2, t3, -, -, -, -, dS, t8, -, t10, -⟩ := Cond.lays_spec (w (d := .lays UE tN "stackTrace" steD) 23 rfl)
  obtain ⟨cX', kX', _, _, _, ft', t1', t2', t3', -, -, -, -, dP, t8', -, t10', -⟩ := Cond.lays_spec (w (d := .lays UE tN "suppressedExceptions" listD) 16 rfl)
  have ap : fb.slot ≠ fd.slot := fun he => by
    cases t1.symm.trans t1'
    cases v8.symm.trans t3
    cases x8.symm.trans t3'
    rw [he] at t8
    cases t8.symm.trans t8'
    rw [t10, v6] at t10'
    rw [x6] at t10'
    exact absurd t10' (by decide)
  have P1 : mF.sig.parameters = [] := by
    have : (parseMethodDescriptor tFill.desc).map (·.parameters) = some [] := by decide +kernel
    rw [g8] at this; simpa using this
  have P2 : mN.sig.parameters = [.int] := by
    have : (parseMethodDescriptor tFill0.desc).map (·.parameters) = some [.int] := by decide +kernel
    rw [n6] at this; simpa using this
  have P3 : mO.sig.parameters.length = 0 := by
    have : (parseMethodDescriptor oInit.desc).map (·.parameters.length) = some 0 := by decide +kernel
    rw [q8] at this; simpa using this
  exact ⟨{ cT := c, kT := k, cO := c, aS := aS, fillIdx := jF, fill0Idx := j, initSIdx := jF, obj := mo, kObj := kO, methFill := mF, methFill0 := mN, methInitS := mF, methObj := mO, codeFill := cF, codeInitS := cF, codeObj := cO, fBack := fa, fDepth := fa, fStack := fb, fCause := fa, fSupp := fd, fMsg := fm, fUnassigned := fe, fSentinel := fg, cfT := cf, ci1 := a1, n1 := b1, ci27 := a2, n27 := b2, ci202 := a3, n202 := b3, ci7 := ca, i7 := ia, ci13 := ce, i13 := ie, ci17 := cb, i17 := ib, ci20 := cg, i20 := ig, ci24 := cd, i24 := id_ },
    { owns := howns, noFinalization := hfin, cls := fk, name := knm, boot := Vm.findClass_boot fc fk, notInterface := s7, initialized := Cond.initialized_spec fc fk (w (d := .initialized tN) 1 rfl), statics := e7, fillAt := f3, fillCode := g2, fillBytes := g3, fillLocals := g4, fillLocks := g6, fillStatic := f4, fillAbstract := f5, fillReturns := g5, fillParams := P1, fill0At := o3, fill0Name := o6, fill0Desc := o7, fill0Params := P2, fill0Static := o4, fill0Native := n3, fill0Code := n4, fill0Locks := n5, fill0Abstract := o5, stackInstance := v4, stackNotFinal := v5, unassignedStatic := e4, objClass := r1, objClassName := r2, objMethod := p2, objName := r3, objStatic := p3, objAbstract := p4, objFound := by rw [r4]; exact lookupSpecial_of_named p1 p2 p3, objParams := P3, objCode := q2, objBytes := q3, objLocks := q6, causeInstance := u4, causeNotFinal := u5, sentinelStatic := i4, suppInstance := x4, suppNotFinal := x5, msgInstance := h4, msgNotFinal := h5, stackApartSupp := ap, file := z1, mlink1 := l1, mright1 := m1, pool1 := y1, mlink27 := l2, mright27 := m2, pool27 := y2, mlink202 := l3, mright202 := m3, pool202 := y3, link7 := u1, right7 := u2, at7 := u3, link13 := e1, right13 := e2, at13 := e3, link17 := v1, right17 := v2, at17 := v3, link20 := i1, right20 := i2, at20 := i3, link24 := x1, right24 := x2, at24 := x3 }, fc, f1, n1, v8, v7, e12⟩
end OwnThr

namespace OwnThr
open Jvm.Lib.Cold Jvm.Free.Str Jvm.Free.Exc LibCode.Throwable
theorem found_at {Z s : State} (hZ : Z.Warmed39 s.vm) {C n d : String} {c i : Nat} {k : Class} {f : Field} (q : Z.fieldFound? C n d = some (c, k, i, f)) {c' i' : Nat} {k' : Class} {f' : Field} (q' : s.fieldFound? C n d = some (c', k', i', f')) : c' = c ∧ i' = i ∧ f' = f ∧ k'.statics = k.statics := by
  obtain ⟨k2, e1, e2⟩ := State.fieldFound?_setVm hZ.alike q
  have e3 : s.fieldFound? C n d = some (c, k2, i, f) := e1
  cases e3.symm.trans q'
  exact ⟨rfl, rfl, rfl, by rw [e2]⟩
theorem fill {p : Program} {l : Launch} {e : Env} {R : Room} {s : State} {args : Array Value} {below : List Frame} {Z : State} {a0 : Array Value} {h : Heap} {n0 len W : Nat} {a ua : Addr} (hx : p.tables.exec = Jvm.exec) (hl : l.stackTraces = true) (hZ : Z.Warmed39 s.vm) (hw : ∀ d ∈ tables_1, d.before a0 Z = true) (hT0 : ThS Z s.heap)
    (E : Exa Z h a UE) (U : Unt h a) (g1 : n0 ≤ a) (FS : Fld Z h a tN "stackTrace" steD (.ref ua)) (FB : Fld Z h a tN "backtrace" obD .null) (SU : Sta Z h tN "UNASSIGNED_STACK" steD (.ref ua)) (hTK : s.vm.MethodsKnown) (hBelow : s.vm.FramesKnown below) (hf : 3 ≤ R.frames) (hlo : W + 42 ≤ R.locals) :
    Back l R p e below s args tFill len W (fun A as => as = #[.ref a] ∧ A.U.heap = h ∧ A.cells + 1 ≤ R.cells ∧ A.slots + 2752 ≤ R.slots)
      (fun A _ v B => ∃ L, (v = some (.ref a) ∧ Fr n0 L ∧ Keep h B.U.heap [a] ∧ Unt B.U.heap a) ∧ B.locs = A.locs ++ L ∧ B.cells = A.cells + 1 ∧ B.slots = A.slots + 2752) := by
  intro m meth c A g ig mk as X hg hsize hdg hWd hn hp
  obtain ⟨rfl, rfl, r1, r2⟩ := hp
  have hal : Z.vm.Alike s.vm := hZ.alike
  have W' : ∀ d ∈ wds, d.before args s = true := fun d hd => mvX hT0 hZ (List.all_eq_true.mp wds_ok d hd) (hw d (wds_in d hd))
  have w : ∀ {d : Jvm.Cond} (i : Nat), wds[i]? = some d → d.holds args s none s [] = true := fun i q => W' _ (List.mem_of_getElem? q)
  have hpl : e.platform.magicAccessors = ({} : Platform).magicAccessors := by rw [X.admits.platform]
  obtain ⟨T, L, hfT, hfill, hfill0, hfS, htyS, hfU⟩ := laid (pl := e.platform) (by rw [X.admits.platform]) (by rw [X.admits.platform]) hpl W'
  obtain ⟨cell, u1, u2, u3⟩ := U
  obtain ⟨cell1, kZ, e1, e2, e3, e4, e5⟩ := E
  cases u1.symm.trans e1
  have hfound : s.vm.findClass UE = some cell.cls := by rw [hal.findClass]; exact e2
  obtain ⟨kX, hk, ek⟩ := hal.2.2 _ _ e3
  obtain ⟨cI, kI, i1, i2, i3, -⟩ := Cond.instantiable_spec (w (d := .instantiable UE 6) 31 rfl)
  cases hfound.symm.trans i1
  cases hk.symm.trans i2
  have hsz : cell.slots.size = kX.instanceTypes.size := by
    have ekk : kZ.kind = kX.kind := by rw [ek]
    rw [e5 (by rw [ekk]; exact i3), ek]
  have hsel0 : selectMethod e.platform s.vm cell.cls T.fill0 = .method T.fill0 := by
    obtain ⟨c2, q2, m2, p1, p2, p3, p4, -⟩ := Cond.selects_spec (w (d := .selects UE tFill0 tFill0) 22 rfl)
    cases p1.symm.trans hfound
    cases p2.symm.trans (State.methodFound?_of_named hfill0 (by decide))
    cases p3.symm.trans hfill0
    rw [Launch.admits_selectMethod X.admits]; exact p4
  obtain ⟨cf, i, k, f, st, cellS, s1, s2, s3, s4, s5, s6, s7⟩ := SU
  obtain ⟨-, -, fU, stU⟩ := found_at hZ s1 hfU
  have eaS : T.aS = st := Option.some.inj (L.statics.symm.trans (stU.trans s4))
  have hneS : T.aS ≠ a := fun z => by
    rw [eaS] at z; subst z
    cases s5.symm.trans u1
    rw [u2] at s6; cases s6
  obtain ⟨cl2, c3, k3, i3', f3, v1, v2, -, -, -, -, v7⟩ := FS
  cases u1.symm.trans v1
  obtain ⟨-, -, fS, -⟩ := found_at hZ v2 hfS
  obtain ⟨cB, iB, fB, b1, b2, b3, b4, b5, b6, b7, b8⟩ := Cond.ownField (t := .object "java/lang/Object") hfT L.cls (by decide +kernel) (w (d := .fieldLink tN 198 tN "backtrace" obD) 24 rfl) (w (d := .lays tN tN "backtrace" obD) 25 rfl) e.platform hpl
  obtain ⟨cl4, c4, k4, i4, f4, y1, y2, -, -, -, -, y7⟩ := FB
  cases u1.symm.trans y1
  obtain ⟨-, -, fBe, -⟩ := found_at hZ y2 b8
  obtain ⟨_, _, cD, kD, iD, fD, -, -, d3, d4, -⟩ := Cond.lays_spec (w (d := .lays UE tN "depth" "I") 27 rfl)
  cases (Cond.lays_declared (w (d := .lays UE tN "depth" "I") 27 rfl) d3).symm.trans hfT
  obtain ⟨d5, d6⟩ := State.fieldFound?_spec d3
  cases d5.symm.trans L.cls
  obtain ⟨d7, d8⟩ := State.fieldFound?_type d3 (t := .int) (by decide +kernel)
  have hfb := Cond.soleField_find hfT L.cls (w (d := .soleField tN "backtrace") 28 rfl) b3 b6 b4
  have hfd := Cond.soleField_find hfT L.cls (w (d := .soleField tN "depth") 29 rfl) d6 d7 d4
  obtain ⟨comp, cO, kO, -, -, o1, o2, o3⟩ := Cond.arrayOver_spec (W' (.arrayOver (.object "java/lang/Object")) (List.mem_of_getElem? (i := 30) rfl))
  have tk : ∀ {f : Field} {v : Value}, kX.instanceTypes[f.slot]? = some f.type → fits f.type v = true → Jvm.Takes s cell f v := fun {f v} q1 q2 => by
    obtain ⟨z1, z2⟩ := Takes.of_laid (v := v) hk i3 q1 q2
    refine ⟨by rw [hsz]; exact (Array.getElem?_eq_some_iff.mp q1).1, ?_⟩
    rw [u2]; exact z2
  obtain ⟨tyS, -⟩ := Cond.laysAt hfound hk hfS (w (d := .lays UE tN "stackTrace" steD) 23 rfl)
  obtain ⟨tyB, -⟩ := Cond.laysAt hfound hk b8 (w (d := .lays UE tN "backtrace" obD) 26 rfl)
  obtain ⟨tyD, -⟩ := Cond.laysAt hfound hk d3 (w (d := .lays UE tN "depth" "I") 27 rfl)
  obtain ⟨v, B, X', ⟨hv, vm', lines, hlen, hW', hBU, hL, hc, hs⟩, stp⟩ := fillPays hx (by rw [X.admits.platform]; exact hl) T L hfill (u0 := ⟨.ref ua, rfl⟩) (by simp) (self := a) (cell := cell) (cellS := cellS) (fun q => by rw [u2]; simp) (by rw [u2]; simp) (by rw [u3]) (by rw [u3]) (by rw [fS]; exact v7) hsel0 hneS
    (fun q => by rw [q] at s6; cases s6) (by rw [fU]; exact s7) (tk tyS (by rw [htyS]; rfl)) ⟨⟨cB, iB, fB⟩, ⟨b1, b2, b3, b4⟩, by rw [fBe]; exact y7⟩ hTK hBelow hfT (hO := o3) o1 o2 hfb hfd (fun q => tk tyB (by rw [b7]; rfl)) (fun q => tk tyD (by rw [d8]; rfl)) (by omega) hlo m meth c A g ig mk _ X hg hsize hdg hWd hn ⟨rfl, r1, r2, u1, by rw [eaS]; exact s5⟩
  have hh : B.U.heap = (A.U.heap.push (traceHolder cO lines)).setIfInBounds a (filledOn T.toThrowableT fB fD cell ⟨.ref ua, rfl⟩ A.U.heap.size lines.length.toInt32) := by rw [hBU]; rfl
  have hlt : a < A.U.heap.size := (Array.getElem?_eq_some_iff.mp u1).1
  have self' : B.U.heap[a]? = some (filledOn T.toThrowableT fB fD cell ⟨.ref ua, rfl⟩ A.U.heap.size lines.length.toInt32) := by
    rw [hh, Array.getElem?_setIfInBounds_self_of_lt (by rw [Array.size_push]; exact Nat.lt_succ_of_lt hlt)]
  have oth : ∀ (x : Addr) (cl : Cell), A.U.heap[x]? = some cl → x ≠ a → B.U.heap[x]? = some cl := fun x cl q ne => by
    obtain ⟨hq, rfl⟩ := Array.getElem?_eq_some_iff.mp q
    rw [hh, Array.getElem?_setIfInBounds_ne (Ne.symm ne)]
    exact Array.getElem?_push_lt hq
  refine ⟨v, ⟨B.U, B.locs, B.cells, A.slots + 2752⟩, X'.more (Nat.le_refl _) (by rw [hs]; exact Nat.add_le_add_left (traceHolder_size_le cO hlen) _), ⟨_, ⟨hv, fun y hy => ?_, ⟨?_, fun x cl q ne => oth x cl q (by simpa using ne), fun x cl q => ?_⟩, ⟨_, self', u2, u3⟩⟩, hL, hc, rfl⟩, stp⟩
  · simp only [List.mem_cons, List.not_mem_nil, or_false] at hy
    rcases hy with rfl | rfl | rfl <;> exact g1
  · show A.U.heap.size ≤ B.U.heap.size
    rw [hh]; simp
  · by_cases z : x = a
    · subst z; cases u1.symm.trans q
      exact ⟨_, self', rfl, rfl, by simp [filledOn, Cell.setSlot]⟩
    · exact ⟨cl, oth x cl q z, rfl, rfl, rfl⟩
end OwnThr

def QUE (Z : State) (a1 b1 : Addr) (h0 : Heap) (n0 : Nat) (v : Option Value) (h : Heap) (L : List Loc) : Prop := v = none ∧ Fr n0 L ∧ Keep h0 h [a1] ∧ Exa Z h a1 "kakehashi/cli/UsageException" ∧ Unt h a1 ∧ Fld Z h a1 "java/lang/Throwable" "detailMessage" "Ljava/lang/String;" (.ref b1) ∧ Fld Z h a1 "java/lang/Throwable" "cause" "Ljava/lang/Throwable;" .null
theorem ef_rmU3 (m : MethodId) (x0 : Addr) (x1 : Addr) : entryFrame m #[(.ref x0), (.ref x1), .null] 3 = mkF m 0 #[.val (.ref x0), .val (.ref x1), .val .null] [] := by first | (simp [entryFrame, mkF, argsToLocals, Value.category]; done) | rfl
theorem pn_java_lang_Throwable : plainName "java/lang/Throwable" = true := by first | (simp [plainName, overriddenIn]; done) | decide +kernel
theorem d32_0 : decode jdk_78_method_3_code 0 = .ok (.aload_n 0, 1) := by decide +kernel
theorem d32_1 : decode jdk_78_method_3_code 1 = .ok (.invokespecial 1, 3) := by decide +kernel
theorem d32_4 : decode jdk_78_method_3_code 4 = .ok (.aload_n 0, 1) := by decide +kernel
theorem d32_5 : decode jdk_78_method_3_code 5 = .ok (.aload_n 0, 1) := by decide +kernel
theorem d32_6 : decode jdk_78_method_3_code 6 = .ok (.putfield 7, 3) := by decide +kernel
theorem d32_9 : decode jdk_78_method_3_code 9 = .ok (.aload_n 0, 1) := by decide +kernel
theorem d32_10 : decode jdk_78_method_3_code 10 = .ok (.getstatic 13, 3) := by decide +kernel
theorem d32_13 : decode jdk_78_method_3_code 13 = .ok (.putfield 17, 3) := by decide +kernel
theorem d32_16 : decode jdk_78_method_3_code 16 = .ok (.aload_n 0, 1) := by decide +kernel
theorem d32_17 : decode jdk_78_method_3_code 17 = .ok (.getstatic 20, 3) := by decide +kernel
theorem d32_20 : decode jdk_78_method_3_code 20 = .ok (.putfield 24, 3) := by decide +kernel
theorem d32_23 : decode jdk_78_method_3_code 23 = .ok (.aload_n 0, 1) := by decide +kernel
theorem pd__28_29Ljava_2flang_2fThrowable_3b : parseMethodDescriptor "()Ljava/lang/Throwable;" = some ⟨[], some (.object "java/lang/Throwable")⟩ := by decide +kernel
theorem d32_24 : decode jdk_78_method_3_code 24 = .ok (.invokevirtual 27, 3) := by decide +kernel
theorem d32_27 : decode jdk_78_method_3_code 27 = .ok (.pop, 1) := by decide +kernel
theorem d32_28 : decode jdk_78_method_3_code 28 = .ok (.aload_n 0, 1) := by decide +kernel
theorem d32_29 : decode jdk_78_method_3_code 29 = .ok (.aload_n 1, 1) := by decide +kernel
theorem d32_30 : decode jdk_78_method_3_code 30 = .ok (.putfield 31, 3) := by decide +kernel
theorem d32_33 : decode jdk_78_method_3_code 33 = .ok (.aload_n 0, 1) := by decide +kernel
theorem d32_34 : decode jdk_78_method_3_code 34 = .ok (.aload_n 2, 1) := by decide +kernel
theorem d32_35 : decode jdk_78_method_3_code 35 = .ok (.putfield 7, 3) := by decide +kernel
theorem d32_38 : decode jdk_78_method_3_code 38 = .ok (.return_, 1) := by decide +kernel
set_option maxRecDepth 65536 in
set_option maxHeartbeats 40000000 in
theorem rmU3 (l : Launch) (Z : State) (a0 : Array Value) (hw : ∀ d ∈ tables_1, d.before a0 Z = true) (ws : List Jvm.Cond) (a1 b1 ua ub : Addr) (q0 q1 q2 q3 : Value) (h0 : Heap) (n0 : Nat) (Z0 : n0 ≤ h0.size) (hl : l.stackTraces = true) (T1 : Sta Z Z.heap "java/lang/Throwable" "UNASSIGNED_STACK" "[Ljava/lang/StackTraceElement;" (.ref ua)) (T2 : Sta Z Z.heap "java/lang/Throwable" "SUPPRESSED_SENTINEL" "Ljava/util/List;" (.ref ub)) (E1 : Exa Z h0 a1 "kakehashi/cli/UsageException") (g1 : n0 ≤ a1) (U1 : Unt h0 a1) (F0 : Fld Z h0 a1 "java/lang/Throwable" "cause" "Ljava/lang/Throwable;" q0) (F1 : Fld Z h0 a1 "java/lang/Throwable" "stackTrace" "[Ljava/lang/StackTraceElement;" q1) (F2 : Fld Z h0 a1 "java/lang/Throwable" "suppressedExceptions" "Ljava/util/List;" q2) (F3 : Fld Z h0 a1 "java/lang/Throwable" "detailMessage" "Ljava/lang/String;" q3) (B1 : Fld Z h0 a1 "java/lang/Throwable" "backtrace" "Ljava/lang/Object;" .null) (O0 : OldL Z n0 h0) :
    MetFree l (⟨"java/lang/Throwable", "<init>", "(Ljava/lang/String;Ljava/lang/Throwable;)V"⟩ : MethodName) (head1 (Jvm.Cond.code (⟨"java/lang/Throwable", "<init>", "(Ljava/lang/String;Ljava/lang/Throwable;)V"⟩ : MethodName) jdk_78_method_3_code 3 none :: ws) ({ frames := 3, cells := 1, slots := 2752, locals := 42 } : Room)) (fun a U => a = #[(.ref a1), (.ref b1), .null] ∧ Z.Warmed39 U.vm ∧ U.heap = h0) (fun _ _ bl s _ => s.vm.MethodsKnown ∧ s.vm.FramesKnown bl) (fun _ U o U' => ∃ v L, o = .returned v ∧ QUE Z a1 b1 h0 n0 v U'.heap L ∧ FrameEnd U o U' L ({ frames := 3, cells := 1, slots := 2752, locals := 42 } : Room).cells ({ frames := 3, cells := 1, slots := 2752, locals := 42 } : Room).slots) := by
  refine MetFree.of_bodySF (plainFor_of_name pn_java_lang_Throwable) hisR ?_
  intro p e s m args below meth c s₁ Bd hml0 hP hK
  obtain ⟨rfl, hZ, hh⟩ := hP
  have hx := Bd.exec
  have hby := Bd.bytes
  have hml : c.maxLocals = 3 := hml0
  have hown : s.vm.findClass "java/lang/Throwable" = some m.cls := findClass_of_methodNamed Bd.named
  have hnm := (name_of_methodNamed Bd.named Bd.method).1
  have X0 : Stand p l e ({ frames := 3, cells := 1, slots := 2752, locals := 42 } : Room) s m #[(.ref a1), (.ref b1), .null] below meth c s₁ [] 0 0 := Stand.of_body Bd
  have e0 : s₁.heap = h0 := by rw [← hh, Bd.state]; rfl
  have N0 := Fr.nil n0
  obtain ⟨hTK, hBelow⟩ := hK
  have pre0 : ∀ t, Steps p.tables e below (s₁.setTop (mkF m 0 #[.val (.ref a1), .val (.ref b1), .val .null] [])) t → Steps p.tables e below (s₁.setTop (entryFrame m #[(.ref a1), (.ref b1), .null] 3)) t := fun t kt => castTop (ef_rmU3 m a1 b1) kt
  have pre21 : ∀ t, Steps p.tables e below (s₁.setTop (mkF m 1 #[.val (.ref a1), .val (.ref b1), .val .null] [(.ref a1)])) t → Steps p.tables e below (s₁.setTop (entryFrame m #[(.ref a1), (.ref b1), .null] 3)) t := fun t kt => pre0 t (by
    refine XS.aloadN X0.here hx rfl (hb hby d32_0) rfl rfl ?_
    show Steps p.tables e below (s₁.setTop (mkF m 1 #[.val (.ref a1), .val (.ref b1), .val .null] [(.ref a1)])) _
    exact kt)
  obtain ⟨T22, X22, e22, st22⟩ := initO X0 hx hZ hown (hw _ (List.mem_of_getElem? (i := 181) rfl)) (hw _ (List.mem_of_getElem? (i := 16) rfl)) (hw _ (List.mem_of_getElem? (i := 17) rfl)) e0 (g := (mkF m 1 #[.val (.ref a1), .val (.ref b1), .val .null] [(.ref a1)])) rfl (by rw [hml]; rfl) rfl (hb hby d32_1) (by decide) (W := 0) (by show 2 * 0 + _ ≤ _; exact Nat.le_of_eq rfl) (by decide)
  have pre23 : ∀ t, Steps p.tables e below (T22.setTop (mkF m 4 #[.val (.ref a1), .val (.ref b1), .val .null] [])) t → Steps p.tables e below (s₁.setTop (entryFrame m #[(.ref a1), (.ref b1), .null] 3)) t := fun t kt => pre21 t (st22 _ kt)
  have pre24 : ∀ t, Steps p.tables e below (T22.setTop (mkF m 6 #[.val (.ref a1), .val (.ref b1), .val .null] [(.ref a1), (.ref a1)])) t → Steps p.tables e below (s₁.setTop (entryFrame m #[(.ref a1), (.ref b1), .null] 3)) t := fun t kt => pre23 t (by
    refine XS.aloadN X22.here hx rfl (hb hby d32_4) rfl rfl ?_
    show Steps p.tables e below (T22.setTop (mkF m 5 #[.val (.ref a1), .val (.ref b1), .val .null] [(.ref a1)])) _
    refine XS.aloadN X22.here hx rfl (hb hby d32_5) rfl rfl ?_
    show Steps p.tables e below (T22.setTop (mkF m 6 #[.val (.ref a1), .val (.ref b1), .val .null] [(.ref a1), (.ref a1)])) _
    exact kt)
  obtain ⟨T25, h25, X25, e25, W25, st25⟩ := putF X22 hx hZ hown (host := "") (Or.inl (hw _ (List.mem_of_getElem? (i := 182) rfl))) Via.refl e22 F0 E1 (Or.inl (hw _ (List.mem_of_getElem? (i := 183) rfl))) (hw _ (List.mem_of_getElem? (i := 48) rfl)) (ty := (.object "java/lang/Throwable")) (by decide) rfl rfl (g := (mkF m 6 #[.val (.ref a1), .val (.ref b1), .val .null] [(.ref a1), (.ref a1)])) rfl rfl (hb hby d32_6)
  have f26 := ((Keep.refl h0 [a1])).wr W25 (Or.inl (List.mem_singleton.mpr rfl))
  have f27 := (E1).wr W25
  have f28 := (U1).wr W25
  have f29 := (B1).other W25 (Or.inr (slot_ne (Or.inl (hw _ (List.mem_of_getElem? (i := 214) rfl))) (Or.inl (hw _ (List.mem_of_getElem? (i := 183) rfl))) (by decide) (t := (.object "java/lang/Object")) (t' := (.object "java/lang/Throwable")) (by decide) (by decide)))
  have f30 := (O0).wr W25 g1
  have f31 := (F1).other W25 (Or.inr (slot_ne (Or.inl (hw _ (List.mem_of_getElem? (i := 186) rfl))) (Or.inl (hw _ (List.mem_of_getElem? (i := 183) rfl))) (by decide) (t := (.array (.object "java/lang/StackTraceElement"))) (t' := (.object "java/lang/Throwable")) (by decide) (by decide)))
  have f32 := (F2).other W25 (Or.inr (slot_ne (Or.inl (hw _ (List.mem_of_getElem? (i := 189) rfl))) (Or.inl (hw _ (List.mem_of_getElem? (i := 183) rfl))) (by decide) (t := (.object "java/util/List")) (t' := (.object "java/lang/Throwable")) (by decide) (by decide)))
  have f33 := (F3).other W25 (Or.inr (slot_ne (Or.inl (hw _ (List.mem_of_getElem? (i := 213) rfl))) (Or.inl (hw _ (List.mem_of_getElem? (i := 183) rfl))) (by decide) (t := (.object "java/lang/String")) (t' := (.object "java/lang/Throwable")) (by decide) (by decide)))
  have Fw25 := (F0).same W25
  have Nf34 := Fr.snoc X25 N0 g1
  have Zf35 : n0 ≤ h25.size := Nat.le_trans Z0 (Keep.of_wr W25).1
  have pre36 : ∀ t, Steps p.tables e below (T25.setTop (mkF m 9 #[.val (.ref a1), .val (.ref b1), .val .null] [])) t → Steps p.tables e below (s₁.setTop (entryFrame m #[(.ref a1), (.ref b1), .null] 3)) t := fun t kt => pre24 t (st25 _ kt)
  have pre37 : ∀ t, Steps p.tables e below (T25.setTop (mkF m 10 #[.val (.ref a1), .val (.ref b1), .val .null] [(.ref a1)])) t → Steps p.tables e below (s₁.setTop (entryFrame m #[(.ref a1), (.ref b1), .null] 3)) t := fun t kt => pre36 t (by
    refine XS.aloadN X25.here hx rfl (hb hby d32_9) rfl rfl ?_
    show Steps p.tables e below (T25.setTop (mkF m 10 #[.val (.ref a1), .val (.ref b1), .val .null] [(.ref a1)])) _
    exact kt)
  obtain ⟨T38, X38, e38, st38⟩ := getS2 X25 hx hZ hown (host := "") (Or.inl (hw _ (List.mem_of_getElem? (i := 184) rfl))) Via.refl e25 (T1.ext (f30).2) (g := (mkF m 10 #[.val (.ref a1), .val (.ref b1), .val .null] [(.ref a1)])) rfl (hb hby d32_10)
  have pre39 : ∀ t, Steps p.tables e below (T38.setTop (mkF m 13 #[.val (.ref a1), .val (.ref b1), .val .null] [(.ref ua), (.ref a1)])) t → Steps p.tables e below (s₁.setTop (entryFrame m #[(.ref a1), (.ref b1), .null] 3)) t := fun t kt => pre37 t (st38 _ kt)
  obtain ⟨T40, h40, X40, e40, W40, st40⟩ := putF X38 hx hZ hown (host := "") (Or.inl (hw _ (List.mem_of_getElem? (i := 185) rfl))) Via.refl e38 f31 f27 (Or.inl (hw _ (List.mem_of_getElem? (i := 186) rfl))) (hw _ (List.mem_of_getElem? (i := 48) rfl)) (ty := (.array (.object "java/lang/StackTraceElement"))) (by decide) rfl rfl (g := (mkF m 13 #[.val (.ref a1), .val (.ref b1), .val .null] [(.ref ua), (.ref a1)])) rfl rfl (hb hby d32_13)
  have f41 := (f26).wr W40 (Or.inl (List.mem_singleton.mpr rfl))
  have f42 := (f27).wr W40
  have f43 := (f28).wr W40
  have f44 := (f29).other W40 (Or.inr (slot_ne (Or.inl (hw _ (List.mem_of_getElem? (i := 214) rfl))) (Or.inl (hw _ (List.mem_of_getElem? (i := 186) rfl))) (by decide) (t := (.object "java/lang/Object")) (t' := (.array (.object "java/lang/StackTraceElement"))) (by decide) (by decide)))
  have f45 := (f30).wr W40 g1
  have f46 := (f32).other W40 (Or.inr (slot_ne (Or.inl (hw _ (List.mem_of_getElem? (i := 189) rfl))) (Or.inl (hw _ (List.mem_of_getElem? (i := 186) rfl))) (by decide) (t := (.object "java/util/List")) (t' := (.array (.object "java/lang/StackTraceElement"))) (by decide) (by decide)))
  have f47 := (f33).other W40 (Or.inr (slot_ne (Or.inl (hw _ (List.mem_of_getElem? (i := 213) rfl))) (Or.inl (hw _ (List.mem_of_getElem? (i := 186) rfl))) (by decide) (t := (.object "java/lang/String")) (t' := (.array (.object "java/lang/StackTraceElement"))) (by decide) (by decide)))
  have f48 := (Fw25).other W40 (Or.inr (slot_ne (Or.inl (hw _ (List.mem_of_getElem? (i := 183) rfl))) (Or.inl (hw _ (List.mem_of_getElem? (i := 186) rfl))) (by decide) (t := (.object "java/lang/Throwable")) (t' := (.array (.object "java/lang/StackTraceElement"))) (by decide) (by decide)))
  have Fw40 := (f31).same W40
  have Nf49 := Fr.snoc X40 Nf34 g1
  have Zf50 : n0 ≤ h40.size := Nat.le_trans Zf35 (Keep.of_wr W40).1
  have pre51 : ∀ t, Steps p.tables e below (T40.setTop (mkF m 16 #[.val (.ref a1), .val (.ref b1), .val .null] [])) t → Steps p.tables e below (s₁.setTop (entryFrame m #[(.ref a1), (.ref b1), .null] 3)) t := fun t kt => pre39 t (st40 _ kt)
  have pre52 : ∀ t, Steps p.tables e below (T40.setTop (mkF m 17 #[.val (.ref a1), .val (.ref b1), .val .null] [(.ref a1)])) t → Steps p.tables e below (s₁.setTop (entryFrame m #[(.ref a1), (.ref b1), .null] 3)) t := fun t kt => pre51 t (by
    refine XS.aloadN X40.here hx rfl (hb hby d32_16) rfl rfl ?_
    show Steps p.tables e below (T40.setTop (mkF m 17 #[.val (.ref a1), .val (.ref b1), .val .null] [(.ref a1)])) _
    exact kt)
  obtain ⟨T53, X53, e53, st53⟩ := getS2 X40 hx hZ hown (host := "") (Or.inl (hw _ (List.mem_of_getElem? (i := 187) rfl))) Via.refl e40 (T2.ext (f45).2) (g := (mkF m 17 #[.val (.ref a1), .val (.ref b1), .val .null] [(.ref a1)])) rfl (hb hby d32_17)
  have pre54 : ∀ t, Steps p.tables e below (T53.setTop (mkF m 20 #[.val (.ref a1), .val (.ref b1), .val .null] [(.ref ub), (.ref a1)])) t → Steps p.tables e below (s₁.setTop (entryFrame m #[(.ref a1), (.ref b1), .null] 3)) t := fun t kt => pre52 t (st53 _ kt)
  obtain ⟨T55, h55, X55, e55, W55, st55⟩ := putF X53 hx hZ hown (host := "") (Or.inl (hw _ (List.mem_of_getElem? (i := 188) rfl))) Via.refl e53 f46 f42 (Or.inl (hw _ (List.mem_of_getElem? (i := 189) rfl))) (hw _ (List.mem_of_getElem? (i := 48) rfl)) (ty := (.object "java/util/List")) (by decide) rfl rfl (g := (mkF m 20 #[.val (.ref a1), .val (.ref b1), .val .null] [(.ref ub), (.ref a1)])) rfl rfl (hb hby d32_20)
  have f56 := (f41).wr W55 (Or.inl (List.mem_singleton.mpr rfl))
  have f57 := (f42).wr W55
  have f58 := (f43).wr W55
  have f59 := (f44).other W55 (Or.inr (slot_ne (Or.inl (hw _ (List.mem_of_getElem? (i := 214) rfl))) (Or.inl (hw _ (List.mem_of_getElem? (i := 189) rfl))) (by decide) (t := (.object "java/lang/Object")) (t' := (.object "java/util/List")) (by decide) (by decide)))
  have f60 := (f45).wr W55 g1
  have f61 := (f47).other W55 (Or.inr (slot_ne (Or.inl (hw _ (List.mem_of_getElem? (i := 213) rfl))) (Or.inl (hw _ (List.mem_of_getElem? (i := 189) rfl))) (by decide) (t := (.object "java/lang/String")) (t' := (.object "java/util/List")) (by decide) (by decide)))
  have f62 := (f48).other W55 (Or.inr (slot_ne (Or.inl (hw _ (List.mem_of_getElem? (i := 183) rfl))) (Or.inl (hw _ (List.mem_of_getElem? (i := 189) rfl))) (by decide) (t := (.object "java/lang/Throwable")) (t' := (.object "java/util/List")) (by decide) (by decide)))
  have f63 := (Fw40).other W55 (Or.inr (slot_ne (Or.inl (hw _ (List.mem_of_getElem? (i := 186) rfl))) (Or.inl (hw _ (List.mem_of_getElem? (i := 189) rfl))) (by decide) (t := (.array (.object "java/lang/StackTraceElement"))) (t' := (.object "java/util/List")) (by decide) (by decide)))
  have Fw55 := (f46).same W55
  have Nf64 := Fr.snoc X55 Nf49 g1
  have Zf65 : n0 ≤ h55.size := Nat.le_trans Zf50 (Keep.of_wr W55).1
  have pre66 : ∀ t, Steps p.tables e below (T55.setTop (mkF m 23 #[.val (.ref a1), .val (.ref b1), .val .null] [])) t → Steps p.tables e below (s₁.setTop (entryFrame m #[(.ref a1), (.ref b1), .null] 3)) t := fun t kt => pre54 t (st55 _ kt)
  have pre67 : ∀ t, Steps p.tables e below (T55.setTop (mkF m 24 #[.val (.ref a1), .val (.ref b1), .val .null] [(.ref a1)])) t → Steps p.tables e below (s₁.setTop (entryFrame m #[(.ref a1), (.ref b1), .null] 3)) t := fun t kt => pre66 t (by
    refine XS.aloadN X55.here hx rfl (hb hby d32_23) rfl rfl ?_
    show Steps p.tables e below (T55.setTop (mkF m 24 #[.val (.ref a1), .val (.ref b1), .val .null] [(.ref a1)])) _
    exact kt)
  obtain ⟨cq68, kq68, q68a, q68b, q68c⟩ := isOf hZ e55 (f57)
  obtain ⟨_, _, ⟨T68, L68, k68, n68⟩, -, X68, ⟨Lc68, hQ68, l68, y68, z68⟩, st68⟩ := X55.virtualBack hx (y := (⟨"java/lang/Throwable", "fillInStackTrace", "()Ljava/lang/Throwable;"⟩ : MethodName)) (z := (⟨"java/lang/Throwable", "fillInStackTrace", "()Ljava/lang/Throwable;"⟩ : MethodName)) hown (mvT hZ (hw _ (List.mem_of_getElem? (i := 190) rfl))) (mvT hZ (hw _ (List.mem_of_getElem? (i := 191) rfl))) (notFace_of_selects (args := #[]) (mvT hZ (hw _ (List.mem_of_getElem? (i := 193) rfl)))) (mvT hZ (hw _ (List.mem_of_getElem? (i := 193) rfl))) (mvT hZ (hw _ (List.mem_of_getElem? (i := 192) rfl))) (by decide) (OwnThr.fill (n0 := n0) (W := 0) hx hl hZ hw (by rw [hh]; exact ThS.start.ext O0.2) f57 f58 g1 f63 f59 (T1.ext (f60).2) hTK hBelow (by decide) (by decide)) q68a q68c (g := (mkF m 24 #[.val (.ref a1), .val (.ref b1), .val .null] [(.ref a1)])) rfl (by rw [hml]; rfl) (Steps.refl _) (argsL := []) (rest := []) (lenOf pd__28_29Ljava_2flang_2fThrowable_3b rfl) rfl (by show 2 * 0 + _ ≤ _; exact Nat.le_of_eq rfl) (hb hby d32_24) (fun _ _ => ⟨rfl, e55, (by decide : 0 + 1 ≤ _), (by decide : 0 + 2752 ≤ _)⟩)
  dsimp only [Pt.U, Pt.locs, Pt.cells, Pt.slots] at X68 l68 y68 z68 st68 hQ68
  subst l68 y68 z68
  obtain ⟨rfl, N68q, K68, U68x⟩ := hQ68
  have N68 := Fr.app Nf64 N68q
  have f69 := (f56).trans K68 (own_all1 (Or.inl (List.mem_singleton.mpr rfl)))
  have f70 := (f57).keep K68
  have f71 := (f60).keep K68 (own_all1 g1)
  have Zf72 : n0 ≤ T68.heap.size := Nat.le_trans Zf65 (K68).1
  obtain ⟨vc, Fl_vc⟩ := fld_laid (O := "java/lang/Throwable") (n := "cause") (d := "Ljava/lang/Throwable;") f70 U68x.known (hw _ (List.mem_of_getElem? (i := 48) rfl)) (Or.inl (hw _ (List.mem_of_getElem? (i := 183) rfl)))
  obtain ⟨vm, Fl_vm⟩ := fld_laid (O := "java/lang/Throwable") (n := "detailMessage") (d := "Ljava/lang/String;") f70 U68x.known (hw _ (List.mem_of_getElem? (i := 48) rfl)) (Or.inl (hw _ (List.mem_of_getElem? (i := 213) rfl)))
  have pre73 : ∀ t, Steps p.tables e below (T68.setTop (mkF m 27 #[.val (.ref a1), .val (.ref b1), .val .null] [(.ref a1)])) t → Steps p.tables e below (s₁.setTop (entryFrame m #[(.ref a1), (.ref b1), .null] 3)) t := fun t kt => pre67 t (st68.trans kt)
  have pre74 : ∀ t, Steps p.tables e below (T68.setTop (mkF m 30 #[.val (.ref a1), .val (.ref b1), .val .null] [(.ref b1), (.ref a1)])) t → Steps p.tables e below (s₁.setTop (entryFrame m #[(.ref a1), (.ref b1), .null] 3)) t := fun t kt => pre73 t (by
    refine XS.pop X68.here hx rfl (hb hby d32_27) rfl rfl ?_
    show Steps p.tables e below (T68.setTop (mkF m 28 #[.val (.ref a1), .val (.ref b1), .val .null] [])) _
    refine XS.aloadN X68.here hx rfl (hb hby d32_28) rfl rfl ?_
    show Steps p.tables e below (T68.setTop (mkF m 29 #[.val (.ref a1), .val (.ref b1), .val .null] [(.ref a1)])) _
    refine XS.aloadN X68.here hx rfl (hb hby d32_29) rfl rfl ?_
    show Steps p.tables e below (T68.setTop (mkF m 30 #[.val (.ref a1), .val (.ref b1), .val .null] [(.ref b1), (.ref a1)])) _
    exact kt)
  obtain ⟨T75, h75, X75, e75, W75, st75⟩ := putF X68 hx hZ hown (host := "") (Or.inl (hw _ (List.mem_of_getElem? (i := 217) rfl))) Via.refl rfl Fl_vm f70 (Or.inl (hw _ (List.mem_of_getElem? (i := 213) rfl))) (hw _ (List.mem_of_getElem? (i := 48) rfl)) (ty := (.object "java/lang/String")) (by decide) rfl rfl (g := (mkF m 30 #[.val (.ref a1), .val (.ref b1), .val .null] [(.ref b1), (.ref a1)])) rfl rfl (hb hby d32_30)
  have f76 := (f69).wr W75 (Or.inl (List.mem_singleton.mpr rfl))
  have f77 := (f70).wr W75
  have f78 := (f71).wr W75 g1
  have f79 := (U68x).wr W75
  have f80 := (Fl_vc).other W75 (Or.inr (slot_ne (Or.inl (hw _ (List.mem_of_getElem? (i := 183) rfl))) (Or.inl (hw _ (List.mem_of_getElem? (i := 213) rfl))) (by decide) (t := (.object "java/lang/Throwable")) (t' := (.object "java/lang/String")) (by decide) (by decide)))
  have Fw75 := (Fl_vm).same W75
  have Nf81 := Fr.snoc X75 N68 g1
  have Zf82 : n0 ≤ h75.size := Nat.le_trans Zf72 (Keep.of_wr W75).1
  have pre83 : ∀ t, Steps p.tables e below (T75.setTop (mkF m 33 #[.val (.ref a1), .val (.ref b1), .val .null] [])) t → Steps p.tables e below (s₁.setTop (entryFrame m #[(.ref a1), (.ref b1), .null] 3)) t := fun t kt => pre74 t (st75 _ kt)
  have pre84 : ∀ t, Steps p.tables e below (T75.setTop (mkF m 35 #[.val (.ref a1), .val (.ref b1), .val .null] [.null, (.ref a1)])) t → Steps p.tables e below (s₁.setTop (entryFrame m #[(.ref a1), (.ref b1), .null] 3)) t := fun t kt => pre83 t (by
    refine XS.aloadN X75.here hx rfl (hb hby d32_33) rfl rfl ?_
    show Steps p.tables e below (T75.setTop (mkF m 34 #[.val (.ref a1), .val (.ref b1), .val .null] [(.ref a1)])) _
    refine XS.aloadN X75.here hx rfl (hb hby d32_34) rfl rfl ?_
    show Steps p.tables e below (T75.setTop (mkF m 35 #[.val (.ref a1), .val (.ref b1), .val .null] [.null, (.ref a1)])) _
    exact kt)
  obtain ⟨T85, h85, X85, e85, W85, st85⟩ := putF X75 hx hZ hown (host := "") (Or.inl (hw _ (List.mem_of_getElem? (i := 182) rfl))) Via.refl e75 f80 f77 (Or.inl (hw _ (List.mem_of_getElem? (i := 183) rfl))) (hw _ (List.mem_of_getElem? (i := 48) rfl)) (ty := (.object "java/lang/Throwable")) (by decide) rfl rfl (g := (mkF m 35 #[.val (.ref a1), .val (.ref b1), .val .null] [.null, (.ref a1)])) rfl rfl (hb hby d32_35)
  have f86 := (f76).wr W85 (Or.inl (List.mem_singleton.mpr rfl))
  have f87 := (f77).wr W85
  have f88 := (f78).wr W85 g1
  have f89 := (f79).wr W85
  have f90 := (Fw75).other W85 (Or.inr (slot_ne (Or.inl (hw _ (List.mem_of_getElem? (i := 213) rfl))) (Or.inl (hw _ (List.mem_of_getElem? (i := 183) rfl))) (by decide) (t := (.object "java/lang/String")) (t' := (.object "java/lang/Throwable")) (by decide) (by decide)))
  have Fw85 := (f80).same W85
  have Nf91 := Fr.snoc X85 Nf81 g1
  have Zf92 : n0 ≤ h85.size := Nat.le_trans Zf82 (Keep.of_wr W85).1
  have pre93 : ∀ t, Steps p.tables e below (T85.setTop (mkF m 38 #[.val (.ref a1), .val (.ref b1), .val .null] [])) t → Steps p.tables e below (s₁.setTop (entryFrame m #[(.ref a1), (.ref b1), .null] 3)) t := fun t kt => pre84 t (st85 _ kt)
  obtain ⟨fs, hr, hrun, hended, hW, hsame⟩ := X85.leave (v := none) (fun _ => rfl)
  refine ⟨_, _, pre93 _ ?_, hrun, hended, _, _, rfl, ?_, ⟨_, rfl⟩, hW, hsame.mono (by decide) (by decide)⟩
  · exact X85.returnOut hx Bd.returns (hb hby d32_38) hr
  · show QUE Z a1 b1 h0 n0 _ T85.heap _
    rw [e85]
    exact ⟨rfl, Nf91, f86, f87, f89, f90, Fw85⟩
theorem ef_rmU2 (m : MethodId) (x0 : Addr) (x1 : Addr) : entryFrame m #[(.ref x0), (.ref x1), .null] 3 = mkF m 0 #[.val (.ref x0), .val (.ref x1), .val .null] [] := by first | (simp [entryFrame, mkF, argsToLocals, Value.category]; done) | rfl
theorem pn_java_lang_Exception : plainName "java/lang/Exception" = true := by first | (simp [plainName, overriddenIn]; done) | decide +kernel
theorem d31_0 : decode jdk_59_method_3_code 0 = .ok (.aload_n 0, 1) := by decide +kernel
theorem d31_1 : decode jdk_59_method_3_code 1 = .ok (.aload_n 1, 1) := by decide +kernel
theorem d31_2 : decode jdk_59_method_3_code 2 = .ok (.aload_n 2, 1) := by decide +kernel
theorem pd__28Ljava_2flang_2fString_3bLjava_2flang_2fThrowable_3b_29V : parseMethodDescriptor "(Ljava/lang/String;Ljava/lang/Throwable;)V" = some ⟨[(.object "java/lang/String"), (.object "java/lang/Throwable")], none⟩ := by decide +kernel
theorem d31_3 : decode jdk_59_method_3_code 3 = .ok (.invokespecial 10, 3) := by decide +kernel
theorem d31_6 : decode jdk_59_method_3_code 6 = .ok (.return_, 1) := by decide +kernel
set_option maxRecDepth 65536 in
set_option maxHeartbeats 40000000 in
theorem rmU2 (l : Launch) (Z : State) (a0 : Array Value) (hw : ∀ d ∈ tables_1, d.before a0 Z = true) (ws : List Jvm.Cond) (a1 b1 ua ub : Addr) (q0 q1 q2 q3 : Value) (h0 : Heap) (n0 : Nat) (Z0 : n0 ≤ h0.size) (hl : l.stackTraces = true) (T1 : Sta Z Z.heap "java/lang/Throwable" "UNASSIGNED_STACK" "[Ljava/lang/StackTraceElement;" (.ref ua)) (T2 : Sta Z Z.heap "java/lang/Throwable" "SUPPRESSED_SENTINEL" "Ljava/util/List;" (.ref ub)) (E1 : Exa Z h0 a1 "kakehashi/cli/UsageException") (g1 : n0 ≤ a1) (U1 : Unt h0 a1) (F0 : Fld Z h0 a1 "java/lang/Throwable" "cause" "Ljava/lang/Throwable;" q0) (F1 : Fld Z h0 a1 "java/lang/Throwable" "stackTrace" "[Ljava/lang/StackTraceElement;" q1) (F2 : Fld Z h0 a1 "java/lang/Throwable" "suppressedExceptions" "Ljava/util/List;" q2) (F3 : Fld Z h0 a1 "java/lang/Throwable" "detailMessage" "Ljava/lang/String;" q3) (B1 : Fld Z h0 a1 "java/lang/Throwable" "backtrace" "Ljava/lang/Object;" .null) (O0 : OldL Z n0 h0) :
    MetFree l (⟨"java/lang/Exception", "<init>", "(Ljava/lang/String;Ljava/lang/Throwable;)V"⟩ : MethodName) (head1 (Jvm.Cond.code (⟨"java/lang/Exception", "<init>", "(Ljava/lang/String;Ljava/lang/Throwable;)V"⟩ : MethodName) jdk_59_method_3_code 3 none :: ws) ({ frames := 4, cells := 1, slots := 2752, locals := 56 } : Room)) (fun a U => a = #[(.ref a1), (.ref b1), .null] ∧ Z.Warmed39 U.vm ∧ U.heap = h0) (fun _ _ bl s _ => s.vm.MethodsKnown ∧ s.vm.FramesKnown bl) (fun _ U o U' => ∃ v L, o = .returned v ∧ QUE Z a1 b1 h0 n0 v U'.heap L ∧ FrameEnd U o U' L ({ frames := 4, cells := 1, slots := 2752, locals := 56 } : Room).cells ({ frames := 4, cells := 1, slots := 2752, locals := 56 } : Room).slots) := by
  refine MetFree.of_bodySF (plainFor_of_name pn_java_lang_Exception) hisR ?_
  intro p e s m args below meth c s₁ Bd hml0 hP hK
  obtain ⟨rfl, hZ, hh⟩ := hP
  have hx := Bd.exec
  have hby := Bd.bytes
  have hml : c.maxLocals = 3 := hml0
  have hown : s.vm.findClass "java/lang/Exception" = some m.cls := findClass_of_methodNamed Bd.named
  have hnm := (name_of_methodNamed Bd.named Bd.method).1
  have X0 : Stand p l e ({ frames := 4, cells := 1, slots := 2752, locals := 56 } : Room) s m #[(.ref a1), (.ref b1), .null] below meth c s₁ [] 0 0 := Stand.of_body Bd
  have e0 : s₁.heap = h0 := by rw [← hh, Bd.state]; rfl
  have N0 := Fr.nil n0
  obtain ⟨hTK, hBelow⟩ := hK
  have pre0 : ∀ t, Steps p.tables e below (s₁.setTop (mkF m 0 #[.val (.ref a1), .val (.ref b1), .val .null] [])) t → Steps p.tables e below (s₁.setTop (entryFrame m #[(.ref a1), (.ref b1), .null] 3)) t := fun t kt => castTop (ef_rmU2 m a1 b1) kt
  have pre21 : ∀ t, Steps p.tables e below (s₁.setTop (mkF m 3 #[.val (.ref a1), .val (.ref b1), .val .null] [.null, (.ref b1), (.ref a1)])) t → Steps p.tables e below (s₁.setTop (entryFrame m #[(.ref a1), (.ref b1), .null] 3)) t := fun t kt => pre0 t (by
    refine XS.aloadN X0.here hx rfl (hb hby d31_0) rfl rfl ?_
    show Steps p.tables e below (s₁.setTop (mkF m 1 #[.val (.ref a1), .val (.ref b1), .val .null] [(.ref a1)])) _
    refine XS.aloadN X0.here hx rfl (hb hby d31_1) rfl rfl ?_
    show Steps p.tables e below (s₁.setTop (mkF m 2 #[.val (.ref a1), .val (.ref b1), .val .null] [(.ref b1), (.ref a1)])) _
    refine XS.aloadN X0.here hx rfl (hb hby d31_2) rfl rfl ?_
    show Steps p.tables e below (s₁.setTop (mkF m 3 #[.val (.ref a1), .val (.ref b1), .val .null] [.null, (.ref b1), (.ref a1)])) _
    exact kt)
  obtain ⟨_, _, ⟨T22, L22, k22, n22⟩, -, X22, ⟨Lc22, hQ22, l22, y22, z22⟩, st22⟩ := X0.specialBack hx (y := (⟨"java/lang/Throwable", "<init>", "(Ljava/lang/String;Ljava/lang/Throwable;)V"⟩ : MethodName)) rfl hown (mvT hZ (hw _ (List.mem_of_getElem? (i := 175) rfl))) (mvT hZ (hw _ (List.mem_of_getElem? (i := 176) rfl))) (mvT hZ (hw _ (List.mem_of_getElem? (i := 180) rfl))) (by decide) (backOfKL (W := 0) (rmU3 l Z a0 hw [] a1 b1 ua ub _ _ _ _ h0 n0 Z0 hl T1 T2 E1 g1 U1 F0 F1 F2 F3 B1 O0) hZ (hw _ (List.mem_of_getElem? (i := 180) rfl)) (hw _ (List.mem_of_getElem? (i := 179) rfl)) (by decide) (by decide) hTK hBelow) (g := (mkF m 3 #[.val (.ref a1), .val (.ref b1), .val .null] [.null, (.ref b1), (.ref a1)])) rfl (by rw [hml]; rfl) (Steps.refl _) (a := a1) (argsL := [(.ref b1), .null]) (rest := []) (lenOf pd__28Ljava_2flang_2fString_3bLjava_2flang_2fThrowable_3b_29V rfl) rfl (by show 2 * 0 + _ ≤ _; exact Nat.le_of_eq rfl) (hb hby d31_3) (fun _ _ => ⟨rfl, e0, (by decide : 0 + 1 ≤ _), (by decide : 0 + 2752 ≤ _)⟩)
  dsimp only [Pt.U, Pt.locs, Pt.cells, Pt.slots] at X22 l22 y22 z22 st22 hQ22
  subst l22 y22 z22
  obtain ⟨rfl, N22q, K22, E22x, U22x, Fm22, Fc22⟩ := hQ22
  have N22 := Fr.app N0 N22q
  have f23 := ((Keep.refl h0 [a1])).trans K22 (own_all1 (Or.inl (List.mem_singleton.mpr rfl)))
  have f24 := (E1).keep K22
  have f25 := (O0).keep K22 (own_all1 g1)
  have Zf26 : n0 ≤ T22.heap.size := Nat.le_trans Z0 (K22).1
  have pre27 : ∀ t, Steps p.tables e below (T22.setTop (mkF m 6 #[.val (.ref a1), .val (.ref b1), .val .null] [])) t → Steps p.tables e below (s₁.setTop (entryFrame m #[(.ref a1), (.ref b1), .null] 3)) t := fun t kt => pre21 t (st22.trans kt)
  obtain ⟨fs, hr, hrun, hended, hW, hsame⟩ := X22.leave (v := none) (fun _ => rfl)
  refine ⟨_, _, pre27 _ ?_, hrun, hended, _, _, rfl, ?_, ⟨_, rfl⟩, hW, hsame.mono (by decide) (by decide)⟩
  · exact X22.returnOut hx Bd.returns (hb hby d31_6) hr
  · show QUE Z a1 b1 h0 n0 _ T22.heap _
    exact ⟨rfl, N22, f23, f24, U22x, Fm22, Fc22⟩
theorem ef_rmU1 (m : MethodId) (x0 : Addr) (x1 : Addr) : entryFrame m #[(.ref x0), (.ref x1), .null] 3 = mkF m 0 #[.val (.ref x0), .val (.ref x1), .val .null] [] := by first | (simp [entryFrame, mkF, argsToLocals, Value.category]; done) | rfl
theorem pn_kakehashi_cli_CommandException : plainName "kakehashi/cli/CommandException" = true := by first | (simp [plainName, overriddenIn]; done) | decide +kernel
theorem d30_0 : decode prog_8_method_1_code 0 = .ok (.aload_n 0, 1) := by decide +kernel
theorem d30_1 : decode prog_8_method_1_code 1 = .ok (.aload_n 1, 1) := by decide +kernel
theorem d30_2 : decode prog_8_method_1_code 2 = .ok (.aload_n 2, 1) := by decide +kernel
theorem d30_3 : decode prog_8_method_1_code 3 = .ok (.invokespecial 1, 3) := by decide +kernel
theorem d30_6 : decode prog_8_method_1_code 6 = .ok (.return_, 1) := by decide +kernel
set_option maxRecDepth 65536 in
set_option maxHeartbeats 40000000 in
theorem rmU1 (l : Launch) (Z : State) (a0 : Array Value) (hw : ∀ d ∈ tables_1, d.before a0 Z = true) (ws : List Jvm.Cond) (a1 b1 ua ub : Addr) (q0 q1 q2 q3 : Value) (h0 : Heap) (n0 : Nat) (Z0 : n0 ≤ h0.size) (hl : l.stackTraces = true) (T1 : Sta Z Z.heap "java/lang/Throwable" "UNASSIGNED_STACK" "[Ljava/lang/StackTraceElement;" (.ref ua)) (T2 : Sta Z Z.heap "java/lang/Throwable" "SUPPRESSED_SENTINEL" "Ljava/util/List;" (.ref ub)) (E1 : Exa Z h0 a1 "kakehashi/cli/UsageException") (g1 : n0 ≤ a1) (U1 : Unt h0 a1) (F0 : Fld Z h0 a1 "java/lang/Throwable" "cause" "Ljava/lang/Throwable;" q0) (F1 : Fld Z h0 a1 "java/lang/Throwable" "stackTrace" "[Ljava/lang/StackTraceElement;" q1) (F2 : Fld Z h0 a1 "java/lang/Throwable" "suppressedExceptions" "Ljava/util/List;" q2) (F3 : Fld Z h0 a1 "java/lang/Throwable" "detailMessage" "Ljava/lang/String;" q3) (B1 : Fld Z h0 a1 "java/lang/Throwable" "backtrace" "Ljava/lang/Object;" .null) (O0 : OldL Z n0 h0) :
    MetFree l (⟨"kakehashi/cli/CommandException", "<init>", "(Ljava/lang/String;Ljava/lang/Throwable;)V"⟩ : MethodName) (head1 (Jvm.Cond.code (⟨"kakehashi/cli/CommandException", "<init>", "(Ljava/lang/String;Ljava/lang/Throwable;)V"⟩ : MethodName) prog_8_method_1_code 3 none :: ws) ({ frames := 5, cells := 1, slots := 2752, locals := 70 } : Room)) (fun a U => a = #[(.ref a1), (.ref b1), .null] ∧ Z.Warmed39 U.vm ∧ U.heap = h0) (fun _ _ bl s _ => s.vm.MethodsKnown ∧ s.vm.FramesKnown bl) (fun _ U o U' => ∃ v L, o = .returned v ∧ QUE Z a1 b1 h0 n0 v U'.heap L ∧ FrameEnd U o U' L ({ frames := 5, cells := 1, slots := 2752, locals := 70 } : Room).cells ({ frames := 5, cells := 1, slots := 2752, locals := 70 } : Room).slots) := by
  refine MetFree.of_bodySF (plainFor_of_name pn_kakehashi_cli_CommandException) hisR ?_
  intro p e s m args below meth c s₁ Bd hml0 hP hK
  obtain ⟨rfl, hZ, hh⟩ := hP
  have hx := Bd.exec
  have hby := Bd.bytes
  have hml : c.maxLocals = 3 := hml0
  have hown : s.vm.findClass "kakehashi/cli/CommandException" = some m.cls := findClass_of_methodNamed Bd.named
  have hnm := (name_of_methodNamed Bd.named Bd.method).1
  have X0 : Stand p l e ({ frames := 5, cells := 1, slots := 2752, locals := 70 } : Room) s m #[(.ref a1), (.ref b1), .null] below meth c s₁ [] 0 0 := Stand.of_body Bd
  have e0 : s₁.heap = h0 := by rw [← hh, Bd.state]; rfl
  have N0 := Fr.nil n0
  obtain ⟨hTK, hBelow⟩ := hK
  have pre0 : ∀ t, Steps p.tables e below (s₁.setTop (mkF m 0 #[.val (.ref a1), .val (.ref b1), .val .null] [])) t → Steps p.tables e below (s₁.setTop (entryFrame m #[(.ref a1), (.ref b1), .null] 3)) t := fun t kt => castTop (ef_rmU1 m a1 b1) kt
  have pre21 : ∀ t, Steps p.tables e below (s₁.setTop (mkF m 3 #[.val (.ref a1), .val (.ref b1), .val .null] [.null, (.ref b1), (.ref a1)])) t → Steps p.tables e below (s₁.setTop (entryFrame m #[(.ref a1), (.ref b1), .null] 3)) t := fun t kt => pre0 t (by
    refine XS.aloadN X0.here hx rfl (hb hby d30_0) rfl rfl ?_
    show Steps p.tables e below (s₁.setTop (mkF m 1 #[.val (.ref a1), .val (.ref b1), .val .null] [(.ref a1)])) _
    refine XS.aloadN X0.here hx rfl (hb hby d30_1) rfl rfl ?_
    show Steps p.tables e below (s₁.setTop (mkF m 2 #[.val (.ref a1), .val (.ref b1), .val .null] [(.ref b1), (.ref a1)])) _
    refine XS.aloadN X0.here hx rfl (hb hby d30_2) rfl rfl ?_
    show Steps p.tables e below (s₁.setTop (mkF m 3 #[.val (.ref a1), .val (.ref b1), .val .null] [.null, (.ref b1), (.ref a1)])) _
    exact kt)
  obtain ⟨_, _, ⟨T22, L22, k22, n22⟩, -, X22, ⟨Lc22, hQ22, l22, y22, z22⟩, st22⟩ := X0.specialBack hx (y := (⟨"java/lang/Exception", "<init>", "(Ljava/lang/String;Ljava/lang/Throwable;)V"⟩ : MethodName)) rfl hown (mvT hZ (hw _ (List.mem_of_getElem? (i := 170) rfl))) (mvT hZ (hw _ (List.mem_of_getElem? (i := 171) rfl))) (mvT hZ (hw _ (List.mem_of_getElem? (i := 174) rfl))) (by decide) (backOfKL (W := 0) (rmU2 l Z a0 hw [] a1 b1 ua ub _ _ _ _ h0 n0 Z0 hl T1 T2 E1 g1 U1 F0 F1 F2 F3 B1 O0) hZ (hw _ (List.mem_of_getElem? (i := 174) rfl)) (hw _ (List.mem_of_getElem? (i := 173) rfl)) (by decide) (by decide) hTK hBelow) (g := (mkF m 3 #[.val (.ref a1), .val (.ref b1), .val .null] [.null, (.ref b1), (.ref a1)])) rfl (by rw [hml]; rfl) (Steps.refl _) (a := a1) (argsL := [(.ref b1), .null]) (rest := []) (lenOf pd__28Ljava_2flang_2fString_3bLjava_2flang_2fThrowable_3b_29V rfl) rfl (by show 2 * 0 + _ ≤ _; exact Nat.le_of_eq rfl) (hb hby d30_3) (fun _ _ => ⟨rfl, e0, (by decide : 0 + 1 ≤ _), (by decide : 0 + 2752 ≤ _)⟩)
  dsimp only [Pt.U, Pt.locs, Pt.cells, Pt.slots] at X22 l22 y22 z22 st22 hQ22
  subst l22 y22 z22
  obtain ⟨rfl, N22q, K22, E22x, U22x, Fm22, Fc22⟩ := hQ22
  have N22 := Fr.app N0 N22q
  have f23 := ((Keep.refl h0 [a1])).trans K22 (own_all1 (Or.inl (List.mem_singleton.mpr rfl)))
  have f24 := (E1).keep K22
  have f25 := (O0).keep K22 (own_all1 g1)
  have Zf26 : n0 ≤ T22.heap.size := Nat.le_trans Z0 (K22).1
  have pre27 : ∀ t, Steps p.tables e below (T22.setTop (mkF m 6 #[.val (.ref a1), .val (.ref b1), .val .null] [])) t → Steps p.tables e below (s₁.setTop (entryFrame m #[(.ref a1), (.ref b1), .null] 3)) t := fun t kt => pre21 t (st22.trans kt)
  obtain ⟨fs, hr, hrun, hended, hW, hsame⟩ := X22.leave (v := none) (fun _ => rfl)
  refine ⟨_, _, pre27 _ ?_, hrun, hended, _, _, rfl, ?_, ⟨_, rfl⟩, hW, hsame.mono (by decide) (by decide)⟩
  · exact X22.returnOut hx Bd.returns (hb hby d30_6) hr
  · show QUE Z a1 b1 h0 n0 _ T22.heap _
    exact ⟨rfl, N22, f23, f24, U22x, Fm22, Fc22⟩
theorem ef_rmUE (m : MethodId) (x0 : Addr) (x1 : Addr) : entryFrame m #[(.ref x0), (.ref x1)] 2 = mkF m 0 #[.val (.ref x0), .val (.ref x1)] [] := by first | (simp [entryFrame, mkF, argsToLocals, Value.category]; done) | rfl
theorem pn_kakehashi_cli_UsageException : plainName "kakehashi/cli/UsageException" = true := by first | (simp [plainName, overriddenIn]; done) | decide +kernel
theorem d29_0 : decode prog_25_method_1_code 0 = .ok (.aload_n 0, 1) := by decide +kernel
theorem d29_1 : decode prog_25_method_1_code 1 = .ok (.aload_n 1, 1) := by decide +kernel
theorem d29_2 : decode prog_25_method_1_code 2 = .ok (.aconst_null, 1) := by decide +kernel
theorem d29_3 : decode prog_25_method_1_code 3 = .ok (.invokespecial 1, 3) := by decide +kernel
theorem d29_6 : decode prog_25_method_1_code 6 = .ok (.return_, 1) := by decide +kernel
set_option maxRecDepth 65536 in
set_option maxHeartbeats 40000000 in
theorem rmUE (l : Launch) (Z : State) (a0 : Array Value) (hw : ∀ d ∈ tables_1, d.before a0 Z = true) (ws : List Jvm.Cond) (a1 b1 ua ub : Addr) (q0 q1 q2 q3 : Value) (h0 : Heap) (n0 : Nat) (Z0 : n0 ≤ h0.size) (hl : l.stackTraces = true) (T1 : Sta Z Z.heap "java/lang/Throwable" "UNASSIGNED_STACK" "[Ljava/lang/StackTraceElement;" (.ref ua)) (T2 : Sta Z Z.heap "java/lang/Throwable" "SUPPRESSED_SENTINEL" "Ljava/util/List;" (.ref ub)) (E1 : Exa Z h0 a1 "kakehashi/cli/UsageException") (g1 : n0 ≤ a1) (U1 : Unt h0 a1) (F0 : Fld Z h0 a1 "java/lang/Throwable" "cause" "Ljava/lang/Throwable;" q0) (F1 : Fld Z h0 a1 "java/lang/Throwable" "stackTrace" "[Ljava/lang/StackTraceElement;" q1) (F2 : Fld Z h0 a1 "java/lang/Throwable" "suppressedExceptions" "Ljava/util/List;" q2) (F3 : Fld Z h0 a1 "java/lang/Throwable" "detailMessage" "Ljava/lang/String;" q3) (B1 : Fld Z h0 a1 "java/lang/Throwable" "backtrace" "Ljava/lang/Object;" .null) (O0 : OldL Z n0 h0) :
    MetFree l (⟨"kakehashi/cli/UsageException", "<init>", "(Ljava/lang/String;)V"⟩ : MethodName) (head1 (Jvm.Cond.code (⟨"kakehashi/cli/UsageException", "<init>", "(Ljava/lang/String;)V"⟩ : MethodName) prog_25_method_1_code 2 none :: ws) ({ frames := 6, cells := 1, slots := 2752, locals := 84 } : Room)) (fun a U => a = #[(.ref a1), (.ref b1)] ∧ Z.Warmed39 U.vm ∧ U.heap = h0) (fun _ _ bl s _ => s.vm.MethodsKnown ∧ s.vm.FramesKnown bl) (fun _ U o U' => ∃ v L, o = .returned v ∧ QUE Z a1 b1 h0 n0 v U'.heap L ∧ FrameEnd U o U' L ({ frames := 6, cells := 1, slots := 2752, locals := 84 } : Room).cells ({ frames := 6, cells := 1, slots := 2752, locals := 84 } : Room).slots) := by
  refine MetFree.of_bodySF (plainFor_of_name pn_kakehashi_cli_UsageException) hisR ?_
  intro p e s m args below meth c s₁ Bd hml0 hP hK
  obtain ⟨rfl, hZ, hh⟩ := hP
  have hx := Bd.exec
  have hby := Bd.bytes
  have hml : c.maxLocals = 2 := hml0
  have hown : s.vm.findClass "kakehashi/cli/UsageException" = some m.cls := findClass_of_methodNamed Bd.named
  have hnm := (name_of_methodNamed Bd.named Bd.method).1
  have X0 : Stand p l e ({ frames := 6, cells := 1, slots := 2752, locals := 84 } : Room) s m #[(.ref a1), (.ref b1)] below meth c s₁ [] 0 0 := Stand.of_body Bd
  have e0 : s₁.heap = h0 := by rw [← hh, Bd.state]; rfl
  have N0 := Fr.nil n0
  obtain ⟨hTK, hBelow⟩ := hK
  have pre0 : ∀ t, Steps p.tables e below (s₁.setTop (mkF m 0 #[.val (.ref a1), .val (.ref b1)] [])) t → Steps p.tables e below (s₁.setTop (entryFrame m #[(.ref a1), (.ref b1)] 2)) t := fun t kt => castTop (ef_rmUE m a1 b1) kt
  have pre21 : ∀ t, Steps p.tables e below (s₁.setTop (mkF m 3 #[.val (.ref a1), .val (.ref b1)] [.null, (.ref b1), (.ref a1)])) t → Steps p.tables e below (s₁.setTop (entryFrame m #[(.ref a1), (.ref b1)] 2)) t := fun t kt => pre0 t (by
    refine XS.aloadN X0.here hx rfl (hb hby d29_0) rfl rfl ?_
    show Steps p.tables e below (s₁.setTop (mkF m 1 #[.val (.ref a1), .val (.ref b1)] [(.ref a1)])) _
    refine XS.aloadN X0.here hx rfl (hb hby d29_1) rfl rfl ?_
    show Steps p.tables e below (s₁.setTop (mkF m 2 #[.val (.ref a1), .val (.ref b1)] [(.ref b1), (.ref a1)])) _
    refine XS.aconstNull X0.here hx rfl (hb hby d29_2) ?_
    show Steps p.tables e below (s₁.setTop (mkF m 3 #[.val (.ref a1), .val (.ref b1)] [.null, (.ref b1), (.ref a1)])) _
    exact kt)
  obtain ⟨_, _, ⟨T22, L22, k22, n22⟩, -, X22, ⟨Lc22, hQ22, l22, y22, z22⟩, st22⟩ := X0.specialBack hx (y := (⟨"kakehashi/cli/CommandException", "<init>", "(Ljava/lang/String;Ljava/lang/Throwable;)V"⟩ : MethodName)) rfl hown (mvT hZ (hw _ (List.mem_of_getElem? (i := 165) rfl))) (mvT hZ (hw _ (List.mem_of_getElem? (i := 166) rfl))) (mvT hZ (hw _ (List.mem_of_getElem? (i := 169) rfl))) (by decide) (backOfKL (W := 0) (rmU1 l Z a0 hw [] a1 b1 ua ub _ _ _ _ h0 n0 Z0 hl T1 T2 E1 g1 U1 F0 F1 F2 F3 B1 O0) hZ (hw _ (List.mem_of_getElem? (i := 169) rfl)) (hw _ (List.mem_of_getElem? (i := 168) rfl)) (by decide) (by decide) hTK hBelow) (g := (mkF m 3 #[.val (.ref a1), .val (.ref b1)] [.null, (.ref b1), (.ref a1)])) rfl (by rw [hml]; rfl) (Steps.refl _) (a := a1) (argsL := [(.ref b1), .null]) (rest := []) (lenOf pd__28Ljava_2flang_2fString_3bLjava_2flang_2fThrowable_3b_29V rfl) rfl (by show 2 * 0 + _ ≤ _; exact Nat.le_of_eq rfl) (hb hby d29_3) (fun _ _ => ⟨rfl, e0, (by decide : 0 + 1 ≤ _), (by decide : 0 + 2752 ≤ _)⟩)
  dsimp only [Pt.U, Pt.locs, Pt.cells, Pt.slots] at X22 l22 y22 z22 st22 hQ22
  subst l22 y22 z22
  obtain ⟨rfl, N22q, K22, E22x, U22x, Fm22, Fc22⟩ := hQ22
  have N22 := Fr.app N0 N22q
  have f23 := ((Keep.refl h0 [a1])).trans K22 (own_all1 (Or.inl (List.mem_singleton.mpr rfl)))
  have f24 := (E1).keep K22
  have f25 := (O0).keep K22 (own_all1 g1)
  have Zf26 : n0 ≤ T22.heap.size := Nat.le_trans Z0 (K22).1
  have pre27 : ∀ t, Steps p.tables e below (T22.setTop (mkF m 6 #[.val (.ref a1), .val (.ref b1)] [])) t → Steps p.tables e below (s₁.setTop (entryFrame m #[(.ref a1), (.ref b1)] 2)) t := fun t kt => pre21 t (st22.trans kt)
  obtain ⟨fs, hr, hrun, hended, hW, hsame⟩ := X22.leave (v := none) (fun _ => rfl)
  refine ⟨_, _, pre27 _ ?_, hrun, hended, _, _, rfl, ?_, ⟨_, rfl⟩, hW, hsame.mono (by decide) (by decide)⟩
  · exact X22.returnOut hx Bd.returns (hb hby d29_6) hr
  · show QUE Z a1 b1 h0 n0 _ T22.heap _
    exact ⟨rfl, N22, f23, f24, U22x, Fm22, Fc22⟩
def QGM (Z : State) (b1 : Addr) (h0 : Heap) (n0 : Nat) (v : Option Value) (h : Heap) (L : List Loc) : Prop := v = some (.ref b1) ∧ Fr n0 L ∧ h = h0
theorem ef_rmGM (m : MethodId) (x0 : Addr) : entryFrame m #[(.ref x0)] 1 = mkF m 0 #[.val (.ref x0)] [] := by first | (simp [entryFrame, mkF, argsToLocals, Value.category]; done) | rfl
theorem d35_0 : decode jdk_78_method_6_code 0 = .ok (.aload_n 0, 1) := by decide +kernel
theorem d35_1 : decode jdk_78_method_6_code 1 = .ok (.getfield 31, 3) := by decide +kernel
theorem d35_4 : decode jdk_78_method_6_code 4 = .ok (.areturn, 1) := by decide +kernel
set_option maxRecDepth 65536 in
set_option maxHeartbeats 40000000 in
theorem rmGM (l : Launch) (Z : State) (a0 : Array Value) (hw : ∀ d ∈ tables_1, d.before a0 Z = true) (ws : List Jvm.Cond) (a1 b1 : Addr) (h0 : Heap) (n0 : Nat) (Z0 : n0 ≤ h0.size) (F1 : Fld Z h0 a1 "java/lang/Throwable" "detailMessage" "Ljava/lang/String;" (.ref b1)) :
    MetFree l (⟨"java/lang/Throwable", "getMessage", "()Ljava/lang/String;"⟩ : MethodName) (head1 (Jvm.Cond.code (⟨"java/lang/Throwable", "getMessage", "()Ljava/lang/String;"⟩ : MethodName) jdk_78_method_6_code 1 (some (.object "java/lang/String")) :: ws) ({ frames := 0, cells := 0, slots := 0, locals := 0 } : Room)) (fun a U => a = #[(.ref a1)] ∧ Z.Warmed39 U.vm ∧ U.heap = h0) (fun _ _ _ _ _ => True) (fun _ U o U' => ∃ v L, o = .returned v ∧ QGM Z b1 h0 n0 v U'.heap L ∧ FrameEnd U o U' L ({ frames := 0, cells := 0, slots := 0, locals := 0 } : Room).cells ({ frames := 0, cells := 0, slots := 0, locals := 0 } : Room).slots) := by
  refine MetFree.of_bodySF (plainFor_of_name pn_java_lang_Throwable) hisR ?_
  intro p e s m args below meth c s₁ Bd hml0 hP hK
  obtain ⟨rfl, hZ, hh⟩ := hP
  have hx := Bd.exec
  have hby := Bd.bytes
  have hml : c.maxLocals = 1 := hml0
  have hown : s.vm.findClass "java/lang/Throwable" = some m.cls := findClass_of_methodNamed Bd.named
  have hnm := (name_of_methodNamed Bd.named Bd.method).1
  have X0 : Stand p l e ({ frames := 0, cells := 0, slots := 0, locals := 0 } : Room) s m #[(.ref a1)] below meth c s₁ [] 0 0 := Stand.of_body Bd
  have e0 : s₁.heap = h0 := by rw [← hh, Bd.state]; rfl
  have N0 := Fr.nil n0
  have pre0 : ∀ t, Steps p.tables e below (s₁.setTop (mkF m 0 #[.val (.ref a1)] [])) t → Steps p.tables e below (s₁.setTop (entryFrame m #[(.ref a1)] 1)) t := fun t kt => castTop (ef_rmGM m a1) kt
  have pre21 : ∀ t, Steps p.tables e below (s₁.setTop (mkF m 1 #[.val (.ref a1)] [(.ref a1)])) t → Steps p.tables e below (s₁.setTop (entryFrame m #[(.ref a1)] 1)) t := fun t kt => pre0 t (by
    refine XS.aloadN X0.here hx rfl (hb hby d35_0) rfl rfl ?_
    show Steps p.tables e below (s₁.setTop (mkF m 1 #[.val (.ref a1)] [(.ref a1)])) _
    exact kt)
  obtain ⟨T22, X22, e22, st22⟩ := getF X0 hx hZ hown (host := "") (Or.inl (hw _ (List.mem_of_getElem? (i := 217) rfl))) Via.refl e0 F1 (g := (mkF m 1 #[.val (.ref a1)] [(.ref a1)])) rfl rfl (hb hby d35_1)
  have pre23 : ∀ t, Steps p.tables e below (T22.setTop (mkF m 4 #[.val (.ref a1)] [(.ref b1)])) t → Steps p.tables e below (s₁.setTop (entryFrame m #[(.ref a1)] 1)) t := fun t kt => pre21 t (st22 _ kt)
  obtain ⟨fs, hr, hrun, hended, hW, hsame⟩ := X22.leave (v := (some (.ref b1))) (fun h => by rw [Bd.returns] at h; cases h)
  refine ⟨_, _, pre23 _ ?_, hrun, hended, _, _, rfl, ?_, ⟨_, rfl⟩, hW, hsame.mono (by decide) (by decide)⟩
  · exact retOut X22 hx Bd.returns rfl (Or.inr (Or.inr (Or.inr (Or.inr ⟨rfl, rfl, rfl⟩)))) (hb hby d35_4) hr
  · show QGM Z b1 h0 n0 _ T22.heap _
    rw [e22]
    exact ⟨rfl, N0, rfl⟩
theorem own_gc {p : Program} {l : Launch} {e : Env} {R : Room} {s : State} {args : Array Value} {below : List Frame} {Z : State} {a0 : Array Value} {h : Heap} {len W : Nat} {a : Addr} (hZ : Z.Warmed39 s.vm) (wc : (Jvm.Cond.codeSync Jvm.RoadKit.gcN Jvm.RoadKit.gcB 1 (some (.object "java/lang/Throwable"))).before a0 Z = true) (wi : (Jvm.Cond.instanceMethod Jvm.RoadKit.gcN).before a0 Z = true) (wz : (Jvm.Cond.initialized "java/lang/Throwable").before a0 Z = true) (wf : (Jvm.Cond.fieldLink "java/lang/Throwable" 7 "java/lang/Throwable" "cause" "Ljava/lang/Throwable;").before a0 Z = true)
    (N : Unt h a) (F : Fld Z h a "java/lang/Throwable" "cause" "Ljava/lang/Throwable;" .null) (hf : 1 ≤ R.frames) (hl : W + 12 ≤ R.locals) :
    Back l R p e below s args Jvm.RoadKit.gcN len W (fun A as => as = #[.ref a] ∧ A.U.heap = h ∧ A.cells + 0 ≤ R.cells ∧ A.slots + 0 ≤ R.slots)
      (fun A _ v B => ∃ L, (v = some .null ∧ L = [] ∧ B.U.heap = h) ∧ B.locs = A.locs ++ L ∧ B.cells = A.cells + 0 ∧ B.slots = A.slots + 0) :=
  Back.mono (gcBackPure (rm := ({ frames := 0, cells := 0, slots := 0, locals := 0 } : Room)) hZ wc wi wz wf N F rfl hf hl) (fun P a hp => hp) (fun P a v B hp hq => ⟨[], ⟨hq.1.trans (congrArg some gcv_null), rfl, hq.2.1⟩, by rw [hq.2.2.1, List.append_nil], hq.2.2.2.1, hq.2.2.2.2⟩)
def QR (Z : State) (a1 : Addr) (h0 : Heap) (n0 : Nat) (v : Option Value) (h : Heap) (L : List Loc) : Prop := v = none ∧ Fr n0 L ∧ h = h0
theorem ef_rmR (m : MethodId) (x0 : Addr) : entryFrame m #[(.ref x0)] 1 = mkF m 0 #[.val (.ref x0)] [] := by first | (simp [entryFrame, mkF, argsToLocals, Value.category]; done) | rfl
theorem pn_java_lang_Record : plainName "java/lang/Record" = true := by first | (simp [plainName, overriddenIn]; done) | decide +kernel
theorem d6_0 : decode jdk_30_method_1_code 0 = .ok (.aload_n 0, 1) := by decide +kernel
theorem d6_1 : decode jdk_30_method_1_code 1 = .ok (.invokespecial 1, 3) := by decide +kernel
theorem d6_4 : decode jdk_30_method_1_code 4 = .ok (.return_, 1) := by decide +kernel
set_option maxRecDepth 65536 in
set_option maxHeartbeats 40000000 in
theorem rmR (l : Launch) (Z : State) (a0 : Array Value) (hw : ∀ d ∈ tables_1, d.before a0 Z = true) (ws : List Jvm.Cond) (a1 : Addr) (h0 : Heap) (n0 : Nat) (Z0 : n0 ≤ h0.size)  :
    MetFree l (⟨"java/lang/Record", "<init>", "()V"⟩ : MethodName) (head1 (Jvm.Cond.code (⟨"java/lang/Record", "<init>", "()V"⟩ : MethodName) jdk_30_method_1_code 1 none :: ws) ({ frames := 1, cells := 0, slots := 0, locals := 12 } : Room)) (fun a U => a = #[(.ref a1)] ∧ Z.Warmed39 U.vm ∧ U.heap = h0) (fun _ _ _ _ _ => True) (fun _ U o U' => ∃ v L, o = .returned v ∧ QR Z a1 h0 n0 v U'.heap L ∧ FrameEnd U o U' L ({ frames := 1, cells := 0, slots := 0, locals := 12 } : Room).cells ({ frames := 1, cells := 0, slots := 0, locals := 12 } : Room).slots) := by
  refine MetFree.of_bodySF (plainFor_of_name pn_java_lang_Record) hisR ?_
  intro p e s m args below meth c s₁ Bd hml0 hP hK
  obtain ⟨rfl, hZ, hh⟩ := hP
  have hx := Bd.exec
  have hby := Bd.bytes
  have hml : c.maxLocals = 1 := hml0
  have hown : s.vm.findClass "java/lang/Record" = some m.cls := findClass_of_methodNamed Bd.named
  have hnm := (name_of_methodNamed Bd.named Bd.method).1
  have X0 : Stand p l e ({ frames := 1, cells := 0, slots := 0, locals := 12 } : Room) s m #[(.ref a1)] below meth c s₁ [] 0 0 := Stand.of_body Bd
  have e0 : s₁.heap = h0 := by rw [← hh, Bd.state]; rfl
  have N0 := Fr.nil n0
  have pre0 : ∀ t, Steps p.tables e below (s₁.setTop (mkF m 0 #[.val (.ref a1)] [])) t → Steps p.tables e below (s₁.setTop (entryFrame m #[(.ref a1)] 1)) t := fun t kt => castTop (ef_rmR m a1) kt
  have pre1 : ∀ t, Steps p.tables e below (s₁.setTop (mkF m 1 #[.val (.ref a1)] [(.ref a1)])) t → Steps p.tables e below (s₁.setTop (entryFrame m #[(.ref a1)] 1)) t := fun t kt => pre0 t (by
    refine XS.aloadN X0.here hx rfl (hb hby d6_0) rfl rfl ?_
    show Steps p.tables e below (s₁.setTop (mkF m 1 #[.val (.ref a1)] [(.ref a1)])) _
    exact kt)
  obtain ⟨T2, X2, e2, st2⟩ := initO X0 hx hZ hown (hw _ (List.mem_of_getElem? (i := 37) rfl)) (hw _ (List.mem_of_getElem? (i := 16) rfl)) (hw _ (List.mem_of_getElem? (i := 17) rfl)) e0 (g := (mkF m 1 #[.val (.ref a1)] [(.ref a1)])) rfl (by rw [hml]; rfl) rfl (hb hby d6_1) (by decide) (W := 0) (by show 2 * 0 + _ ≤ _; exact Nat.le_of_eq rfl) (by decide)
  have pre3 : ∀ t, Steps p.tables e below (T2.setTop (mkF m 4 #[.val (.ref a1)] [])) t → Steps p.tables e below (s₁.setTop (entryFrame m #[(.ref a1)] 1)) t := fun t kt => pre1 t (st2 _ kt)
  obtain ⟨fs, hr, hrun, hended, hW, hsame⟩ := X2.leave (v := none) (fun _ => rfl)
  refine ⟨_, _, pre3 _ ?_, hrun, hended, _, _, rfl, ?_, ⟨_, rfl⟩, hW, hsame.mono (by decide) (by decide)⟩
  · exact X2.returnOut hx Bd.returns (hb hby d6_4) hr
  · show QR Z a1 h0 n0 _ T2.heap _
    rw [e2]
    exact ⟨rfl, N0, rfl⟩
def QOp (Z : State) (a1 b1 b2 : Addr) (h0 : Heap) (n0 : Nat) (v : Option Value) (h : Heap) (L : List Loc) : Prop := v = none ∧ Fr n0 L ∧ Keep h0 h [a1] ∧ Fld Z h a1 "kakehashi/cli/Arguments$Option" "name" "Ljava/lang/String;" (.ref b1) ∧ Fld Z h a1 "kakehashi/cli/Arguments$Option" "value" "Ljava/lang/String;" (.ref b2)
theorem ef_rmOp (m : MethodId) (x0 : Addr) (x1 : Addr) (x2 : Addr) : entryFrame m #[(.ref x0), (.ref x1), (.ref x2)] 3 = mkF m 0 #[.val (.ref x0), .val (.ref x1), .val (.ref x2)] [] := by first | (simp [entryFrame, mkF, argsToLocals, Value.category]; done) | rfl
theorem pn_kakehashi_cli_Arguments_Option : plainName "kakehashi/cli/Arguments$Option" = true := by first | (simp [plainName, overriddenIn]; done) | decide +kernel
theorem d5_0 : decode prog_5_method_1_code 0 = .ok (.aload_n 0, 1) := by decide +kernel
theorem pd__28_29V : parseMethodDescriptor "()V" = some ⟨[], none⟩ := by decide +kernel
theorem d5_1 : decode prog_5_method_1_code 1 = .ok (.invokespecial 1, 3) := by decide +kernel
theorem d5_4 : decode prog_5_method_1_code 4 = .ok (.aload_n 0, 1) := by decide +kernel
theorem d5_5 : decode prog_5_method_1_code 5 = .ok (.aload_n 1, 1) := by decide +kernel
theorem d5_6 : decode prog_5_method_1_code 6 = .ok (.putfield 7, 3) := by decide +kernel
theorem d5_9 : decode prog_5_method_1_code 9 = .ok (.aload_n 0, 1) := by decide +kernel
theorem d5_10 : decode prog_5_method_1_code 10 = .ok (.aload_n 2, 1) := by decide +kernel
theorem d5_11 : decode prog_5_method_1_code 11 = .ok (.putfield 13, 3) := by decide +kernel
theorem d5_14 : decode prog_5_method_1_code 14 = .ok (.return_, 1) := by decide +kernel
set_option maxRecDepth 65536 in
set_option maxHeartbeats 40000000 in
theorem rmOp (l : Launch) (Z : State) (a0 : Array Value) (hw : ∀ d ∈ tables_1, d.before a0 Z = true) (ws : List Jvm.Cond) (a1 b1 b2 : Addr) (u1 u2 : Value) (h0 : Heap) (n0 : Nat) (Z0 : n0 ≤ h0.size) (E1 : Exa Z h0 a1 "kakehashi/cli/Arguments$Option") (g1 : n0 ≤ a1) (F1 : Fld Z h0 a1 "kakehashi/cli/Arguments$Option" "name" "Ljava/lang/String;" u1) (F2 : Fld Z h0 a1 "kakehashi/cli/Arguments$Option" "value" "Ljava/lang/String;" u2) :
    MetFree l (⟨"kakehashi/cli/Arguments$Option", "<init>", "(Ljava/lang/String;Ljava/lang/String;)V"⟩ : MethodName) (head1 (Jvm.Cond.code (⟨"kakehashi/cli/Arguments$Option", "<init>", "(Ljava/lang/String;Ljava/lang/String;)V"⟩ : MethodName) prog_5_method_1_code 3 none :: ws) ({ frames := 2, cells := 0, slots := 0, locals := 24 } : Room)) (fun a U => a = #[(.ref a1), (.ref b1), (.ref b2)] ∧ Z.Warmed39 U.vm ∧ U.heap = h0) (fun _ _ _ _ _ => True) (fun _ U o U' => ∃ v L, o = .returned v ∧ QOp Z a1 b1 b2 h0 n0 v U'.heap L ∧ FrameEnd U o U' L ({ frames := 2, cells := 0, slots := 0, locals := 24 } : Room).cells ({ frames := 2, cells := 0, slots := 0, locals := 24 } : Room).slots) := by
  refine MetFree.of_bodySF (plainFor_of_name pn_kakehashi_cli_Arguments_Option) hisR ?_
  intro p e s m args below meth c s₁ Bd hml0 hP hK
  obtain ⟨rfl, hZ, hh⟩ := hP
  have hx := Bd.exec
  have hby := Bd.bytes
  have hml : c.maxLocals = 3 := hml0
  have hown : s.vm.findClass "kakehashi/cli/Arguments$Option" = some m.cls := findClass_of_methodNamed Bd.named
  have hnm := (name_of_methodNamed Bd.named Bd.method).1
  have X0 : Stand p l e ({ frames := 2, cells := 0, slots := 0, locals := 24 } : Room) s m #[(.ref a1), (.ref b1), (.ref b2)] below meth c s₁ [] 0 0 := Stand.of_body Bd
  have e0 : s₁.heap = h0 := by rw [← hh, Bd.state]; rfl
  have N0 := Fr.nil n0
  have pre0 : ∀ t, Steps p.tables e below (s₁.setTop (mkF m 0 #[.val (.ref a1), .val (.ref b1), .val (.ref b2)] [])) t → Steps p.tables e below (s₁.setTop (entryFrame m #[(.ref a1), (.ref b1), (.ref b2)] 3)) t := fun t kt => castTop (ef_rmOp m a1 b1 b2) kt
  have pre21 : ∀ t, Steps p.tables e below (s₁.setTop (mkF m 1 #[.val (.ref a1), .val (.ref b1), .val (.ref b2)] [(.ref a1)])) t → Steps p.tables e below (s₁.setTop (entryFrame m #[(.ref a1), (.ref b1), (.ref b2)] 3)) t := fun t kt => pre0 t (by
    refine XS.aloadN X0.here hx rfl (hb hby d5_0) rfl rfl ?_
    show Steps p.tables e below (s₁.setTop (mkF m 1 #[.val (.ref a1), .val (.ref b1), .val (.ref b2)] [(.ref a1)])) _
    exact kt)
  obtain ⟨_, _, ⟨T22, L22, k22, n22⟩, -, X22, ⟨Lc22, hQ22, l22, y22, z22⟩, st22⟩ := X0.specialBack hx (y := (⟨"java/lang/Record", "<init>", "()V"⟩ : MethodName)) rfl hown (mvT hZ (hw _ (List.mem_of_getElem? (i := 32) rfl))) (mvT hZ (hw _ (List.mem_of_getElem? (i := 33) rfl))) (mvT hZ (hw _ (List.mem_of_getElem? (i := 36) rfl))) (by decide) (backOf (W := 0) (rmR l Z a0 hw [] a1 h0 n0 Z0) hZ (hw _ (List.mem_of_getElem? (i := 36) rfl)) (hw _ (List.mem_of_getElem? (i := 35) rfl)) (by decide) (by decide)) (g := (mkF m 1 #[.val (.ref a1), .val (.ref b1), .val (.ref b2)] [(.ref a1)])) rfl (by rw [hml]; rfl) (Steps.refl _) (a := a1) (argsL := []) (rest := []) (lenOf pd__28_29V rfl) rfl (by show 2 * 0 + _ ≤ _; exact Nat.le_of_eq rfl) (hb hby d5_1) (fun _ _ => ⟨rfl, e0, (by decide : 0 + 0 ≤ _), (by decide : 0 + 0 ≤ _)⟩)
  dsimp only [Pt.U, Pt.locs, Pt.cells, Pt.slots] at X22 l22 y22 z22 st22 hQ22
  subst l22 y22 z22
  obtain ⟨rfl, N22q, e22q⟩ := hQ22
  have N22 := Fr.app N0 N22q
  have pre23 : ∀ t, Steps p.tables e below (T22.setTop (mkF m 4 #[.val (.ref a1), .val (.ref b1), .val (.ref b2)] [])) t → Steps p.tables e below (s₁.setTop (entryFrame m #[(.ref a1), (.ref b1), (.ref b2)] 3)) t := fun t kt => pre21 t (st22.trans kt)
  have pre24 : ∀ t, Steps p.tables e below (T22.setTop (mkF m 6 #[.val (.ref a1), .val (.ref b1), .val (.ref b2)] [(.ref b1), (.ref a1)])) t → Steps p.tables e below (s₁.setTop (entryFrame m #[(.ref a1), (.ref b1), (.ref b2)] 3)) t := fun t kt => pre23 t (by
    refine XS.aloadN X22.here hx rfl (hb hby d5_4) rfl rfl ?_
    show Steps p.tables e below (T22.setTop (mkF m 5 #[.val (.ref a1), .val (.ref b1), .val (.ref b2)] [(.ref a1)])) _
    refine XS.aloadN X22.here hx rfl (hb hby d5_5) rfl rfl ?_
    show Steps p.tables e below (T22.setTop (mkF m 6 #[.val (.ref a1), .val (.ref b1), .val (.ref b2)] [(.ref b1), (.ref a1)])) _
    exact kt)
  obtain ⟨T25, h25, X25, e25, W25, st25⟩ := putF X22 hx hZ hown (host := "") (Or.inl (hw _ (List.mem_of_getElem? (i := 38) rfl))) Via.refl e22q F1 E1 (Or.inr ⟨(hw _ (List.mem_of_getElem? (i := 39) rfl)), rfl, hnm⟩) (hw _ (List.mem_of_getElem? (i := 27) rfl)) (ty := (.object "java/lang/String")) (by decide) rfl rfl (g := (mkF m 6 #[.val (.ref a1), .val (.ref b1), .val (.ref b2)] [(.ref b1), (.ref a1)])) rfl rfl (hb hby d5_6)
  have f26 := ((Keep.refl h0 [a1])).wr W25 (Or.inl (List.mem_singleton.mpr rfl))
  have f27 := (E1).wr W25
  have f28 := (F2).other W25 (Or.inr (slot_ne (Or.inr (hw _ (List.mem_of_getElem? (i := 41) rfl))) (Or.inr (hw _ (List.mem_of_getElem? (i := 39) rfl))) (by decide) (t := (.object "java/lang/String")) (t' := (.object "java/lang/String")) (by decide) (by decide)))
  have Fw25 := (F1).same W25
  have Nf29 := Fr.snoc X25 N22 g1
  have Zf30 : n0 ≤ h25.size := Nat.le_trans Z0 (Keep.of_wr W25).1
  have pre31 : ∀ t, Steps p.tables e below (T25.setTop (mkF m 9 #[.val (.ref a1), .val (.ref b1), .val (.ref b2)] [])) t → Steps p.tables e below (s₁.setTop (entryFrame m #[(.ref a1), (.ref b1), (.ref b2)] 3)) t := fun t kt => pre24 t (st25 _ kt)
  have pre32 : ∀ t, Steps p.tables e below (T25.setTop (mkF m 11 #[.val (.ref a1), .val (.ref b1), .val (.ref b2)] [(.ref b2), (.ref a1)])) t → Steps p.tables e below (s₁.setTop (entryFrame m #[(.ref a1), (.ref b1), (.ref b2)] 3)) t := fun t kt => pre31 t (by
    refine XS.aloadN X25.here hx rfl (hb hby d5_9) rfl rfl ?_
    show Steps p.tables e below (T25.setTop (mkF m 10 #[.val (.ref a1), .val (.ref b1), .val (.ref b2)] [(.ref a1)])) _
    refine XS.aloadN X25.here hx rfl (hb hby d5_10) rfl rfl ?_
    show Steps p.tables e below (T25.setTop (mkF m 11 #[.val (.ref a1), .val (.ref b1), .val (.ref b2)] [(.ref b2), (.ref a1)])) _
    exact kt)
  obtain ⟨T33, h33, X33, e33, W33, st33⟩ := putF X25 hx hZ hown (host := "") (Or.inl (hw _ (List.mem_of_getElem? (i := 40) rfl))) Via.refl e25 f28 f27 (Or.inr ⟨(hw _ (List.mem_of_getElem? (i := 41) rfl)), rfl, hnm⟩) (hw _ (List.mem_of_getElem? (i := 27) rfl)) (ty := (.object "java/lang/String")) (by decide) rfl rfl (g := (mkF m 11 #[.val (.ref a1), .val (.ref b1), .val (.ref b2)] [(.ref b2), (.ref a1)])) rfl rfl (hb hby d5_11)
  have f34 := (f26).wr W33 (Or.inl (List.mem_singleton.mpr rfl))
  have f35 := (f27).wr W33
  have f36 := (Fw25).other W33 (Or.inr (slot_ne (Or.inr (hw _ (List.mem_of_getElem? (i := 39) rfl))) (Or.inr (hw _ (List.mem_of_getElem? (i := 41) rfl))) (by decide) (t := (.object "java/lang/String")) (t' := (.object "java/lang/String")) (by decide) (by decide)))
  have Fw33 := (f28).same W33
  have Nf37 := Fr.snoc X33 Nf29 g1
  have Zf38 : n0 ≤ h33.size := Nat.le_trans Zf30 (Keep.of_wr W33).1
  have pre39 : ∀ t, Steps p.tables e below (T33.setTop (mkF m 14 #[.val (.ref a1), .val (.ref b1), .val (.ref b2)] [])) t → Steps p.tables e below (s₁.setTop (entryFrame m #[(.ref a1), (.ref b1), (.ref b2)] 3)) t := fun t kt => pre32 t (st33 _ kt)
  obtain ⟨fs, hr, hrun, hended, hW, hsame⟩ := X33.leave (v := none) (fun _ => rfl)
  refine ⟨_, _, pre39 _ ?_, hrun, hended, _, _, rfl, ?_, ⟨_, rfl⟩, hW, hsame.mono (by decide) (by decide)⟩
  · exact X33.returnOut hx Bd.returns (hb hby d5_14) hr
  · show QOp Z a1 b1 b2 h0 n0 _ T33.heap _
    rw [e33]
    exact ⟨rfl, Nf37, f34, f36, Fw33⟩
def QE (Z : State) (a1 : Addr) (h0 : Heap) (n0 : Nat) (v : Option Value) (h : Heap) (L : List Loc) : Prop := v = none ∧ Fr n0 L ∧ Keep h0 h [a1] ∧ Exa Z h a1 "java/lang/String" ∧ Fld Z h a1 "java/lang/String" "coder" "B" (.int (0 : Int32)) ∧ ∃ (t : Addr) (kt : ClassId), Fld Z h a1 "java/lang/String" "value" "[B" (.ref t) ∧ Arv Z h t kt .byte (0 : Int32) [] (.int (0 : Int32))
theorem ef_rmE2 (m : MethodId) (x0 : Addr) (x1 : Addr) (x2 : Int32) (x3 : Int32) : entryFrame m #[(.ref x0), (.ref x1), (.int x2), (.int x3), .null] 6 = mkF m 0 #[.val (.ref x0), .val (.ref x1), .val (.int x2), .val (.int x3), .val .null, .unset] [] := by first | (simp [entryFrame, mkF, argsToLocals, Value.category]; done) | rfl
theorem d3_0 : decode jdk_42_method_149_code 0 = .ok (.aload_n 0, 1) := by decide +kernel
theorem d3_1 : decode jdk_42_method_149_code 1 = .ok (.invokespecial 1, 3) := by decide +kernel
theorem d3_4 : decode jdk_42_method_149_code 4 = .ok (.iload_n 3, 1) := by decide +kernel
theorem d3_5 : decode jdk_42_method_149_code 5 = .ok (.ifCond .ne 22, 3) := by decide +kernel
theorem d3_8 : decode jdk_42_method_149_code 8 = .ok (.aload_n 0, 1) := by decide +kernel
theorem d3_9 : decode jdk_42_method_149_code 9 = .ok (.ldc 7, 2) := by decide +kernel
theorem d3_11 : decode jdk_42_method_149_code 11 = .ok (.getfield 9, 3) := by decide +kernel
theorem d3_14 : decode jdk_42_method_149_code 14 = .ok (.putfield 9, 3) := by decide +kernel
theorem d3_17 : decode jdk_42_method_149_code 17 = .ok (.aload_n 0, 1) := by decide +kernel
theorem d3_18 : decode jdk_42_method_149_code 18 = .ok (.ldc 7, 2) := by decide +kernel
theorem d3_20 : decode jdk_42_method_149_code 20 = .ok (.getfield 15, 3) := by decide +kernel
theorem d3_23 : decode jdk_42_method_149_code 23 = .ok (.putfield 15, 3) := by decide +kernel
theorem d3_26 : decode jdk_42_method_149_code 26 = .ok (.return_, 1) := by decide +kernel
set_option maxRecDepth 65536 in
set_option maxHeartbeats 40000000 in
theorem rmE2 (l : Launch) (Z : State) (a0 : Array Value) (hw : ∀ d ∈ tables_1, d.before a0 Z = true) (ws : List Jvm.Cond) (a1 c1 : Addr) (u2 : Value) (h0 : Heap) (n0 : Nat) (Z0 : n0 ≤ h0.size) (E1 : Exa Z h0 a1 "java/lang/String") (g1 : n0 ≤ a1) (F1 : Fld Z h0 a1 "java/lang/String" "value" "[B" .null) (F2 : Fld Z h0 a1 "java/lang/String" "coder" "B" u2) :
    MetFree l (⟨"java/lang/String", "<init>", "([CIILjava/lang/Void;)V"⟩ : MethodName) (head1 (Jvm.Cond.code (⟨"java/lang/String", "<init>", "([CIILjava/lang/Void;)V"⟩ : MethodName) jdk_42_method_149_code 6 none :: ws) ({ frames := 1, cells := 2, slots := 4, locals := 12 } : Room)) (fun a U => a = #[(.ref a1), (.ref c1), (.int (0 : Int32)), (.int (0 : Int32)), .null] ∧ Z.Warmed39 U.vm ∧ U.heap = h0 ∧ CHv Z own_EL U.vm h0) (fun _ _ _ _ _ => True) (fun _ U o U' => ∃ v L, o = .returned v ∧ QE Z a1 h0 n0 v U'.heap L ∧ CHr Z own_EL U.vm U.heap U'.vm U'.heap ∧ ReturnedEndW U o U' L ({ frames := 1, cells := 2, slots := 4, locals := 12 } : Room).cells ({ frames := 1, cells := 2, slots := 4, locals := 12 } : Room).slots) := by
  refine MetFree.of_bodySF (plainFor_of_name pn_java_lang_String) hisR ?_
  intro p e s m args below meth c s₁ Bd hml0 hP hK
  obtain ⟨rfl, hZ, hh, hI⟩ := hP
  have hx := Bd.exec
  have hby := Bd.bytes
  have hml : c.maxLocals = 6 := hml0
  have hown : s.vm.findClass "java/lang/String" = some m.cls := findClass_of_methodNamed Bd.named
  have hnm := (name_of_methodNamed Bd.named Bd.method).1
  have X0 : Stand p l e ({ frames := 1, cells := 2, slots := 4, locals := 12 } : Room) s m #[(.ref a1), (.ref c1), (.int (0 : Int32)), (.int (0 : Int32)), .null] below meth c s₁ [] 0 0 := Stand.of_body Bd
  have e0 : s₁.heap = h0 := by rw [← hh, Bd.state]; rfl
  have N0 := Fr.nil n0
  have pre0 : ∀ t, Steps p.tables e below (s₁.setTop (mkF m 0 #[.val (.ref a1), .val (.ref c1), .val (.int (0 : Int32)), .val (.int (0 : Int32)), .val .null, .unset] [])) t → Steps p.tables e below (s₁.setTop (entryFrame m #[(.ref a1), (.ref c1), (.int (0 : Int32)), (.int (0 : Int32)), .null] 6)) t := fun t kt => castTop (ef_rmE2 m a1 c1 (0 : Int32) (0 : Int32)) kt
  have pre21 : ∀ t, Steps p.tables e below (s₁.setTop (mkF m 1 #[.val (.ref a1), .val (.ref c1), .val (.int (0 : Int32)), .val (.int (0 : Int32)), .val .null, .unset] [(.ref a1)])) t → Steps p.tables e below (s₁.setTop (entryFrame m #[(.ref a1), (.ref c1), (.int (0 : Int32)), (.int (0 : Int32)), .null] 6)) t := fun t kt => pre0 t (by
    refine XS.aloadN X0.here hx rfl (hb hby d3_0) rfl rfl ?_
    show Steps p.tables e below (s₁.setTop (mkF m 1 #[.val (.ref a1), .val (.ref c1), .val (.int (0 : Int32)), .val (.int (0 : Int32)), .val .null, .unset] [(.ref a1)])) _
    exact kt)
  obtain ⟨T22, X22, e22, st22⟩ := initO X0 hx hZ hown (hw _ (List.mem_of_getElem? (i := 15) rfl)) (hw _ (List.mem_of_getElem? (i := 16) rfl)) (hw _ (List.mem_of_getElem? (i := 17) rfl)) e0 (g := (mkF m 1 #[.val (.ref a1), .val (.ref c1), .val (.int (0 : Int32)), .val (.int (0 : Int32)), .val .null, .unset] [(.ref a1)])) rfl (by rw [hml]; rfl) rfl (hb hby d3_1) (by decide) (W := 0) (by show 2 * 0 + _ ≤ _; exact Nat.le_of_eq rfl) (by decide)
  have pre23 : ∀ t, Steps p.tables e below (T22.setTop (mkF m 4 #[.val (.ref a1), .val (.ref c1), .val (.int (0 : Int32)), .val (.int (0 : Int32)), .val .null, .unset] [])) t → Steps p.tables e below (s₁.setTop (entryFrame m #[(.ref a1), (.ref c1), (.int (0 : Int32)), (.int (0 : Int32)), .null] 6)) t := fun t kt => pre21 t (st22 _ kt)
  have pre24 : ∀ t, Steps p.tables e below (T22.setTop (mkF m 9 #[.val (.ref a1), .val (.ref c1), .val (.int (0 : Int32)), .val (.int (0 : Int32)), .val .null, .unset] [(.ref a1)])) t → Steps p.tables e below (s₁.setTop (entryFrame m #[(.ref a1), (.ref c1), (.int (0 : Int32)), (.int (0 : Int32)), .null] 6)) t := fun t kt => pre23 t (by
    refine XS.iloadN X22.here hx rfl (hb hby d3_4) rfl ?_
    show Steps p.tables e below (T22.setTop (mkF m 5 #[.val (.ref a1), .val (.ref c1), .val (.int (0 : Int32)), .val (.int (0 : Int32)), .val .null, .unset] [(.int (0 : Int32))])) _
    refine XS.ifNo X22.here hx rfl (hb hby d3_5) rfl ((if0 _ _).trans (teq (by decide : (0 : Int32) = (0 : Int32))).2) ?_
    show Steps p.tables e below (T22.setTop (mkF m 8 #[.val (.ref a1), .val (.ref c1), .val (.int (0 : Int32)), .val (.int (0 : Int32)), .val .null, .unset] [])) _
    refine XS.aloadN X22.here hx rfl (hb hby d3_8) rfl rfl ?_
    show Steps p.tables e below (T22.setTop (mkF m 9 #[.val (.ref a1), .val (.ref c1), .val (.int (0 : Int32)), .val (.int (0 : Int32)), .val .null, .unset] [(.ref a1)])) _
    exact kt)
  have sf25 : ∀ y ∈ ([a1] : List Addr), Safe Z own_EL s.vm h0 y := (sfS (own_safe_null hZ.alike E1 F1) sf0)
  have ch25 : CHr Z own_EL s.vm h0 s.vm h0 := CHr.trans (CHr.refl hI) (CHr.keep (Keep.refl h0 [a1]) sf25 ((CHr.refl hI)).1)
  have sa26 : Safe Z own_EL s.vm h0 a1 := Safe.keep (Keep.refl h0 [a1]) sf25 ((CHr.refl hI)).1 (own_safe_null hZ.alike E1 F1)
  obtain ⟨a27, T27, h27, k27, bb27, kk27, X27, e27, E27, hS27, hk27, hZ27, hO27, A27, Fc27, Fv27, Vv27, -, -, hC27, Lt27, hne27, st27⟩ := ldcCH (s := s) (vm0 := s.vm) X22 hx hZ hown (hw _ (List.mem_of_getElem? (i := 18) rfl)) (own_wS hw) e22 ((State.WarmedH.refl s).since 0) (Nat.zero_le _) (own_EW hw) (by decide) (ch25).1 (vs := []) (z := (0 : Int32)) ⟨by decide, by decide⟩ (by decide) rfl (g := (mkF m 9 #[.val (.ref a1), .val (.ref c1), .val (.int (0 : Int32)), .val (.int (0 : Int32)), .val .null, .unset] [(.ref a1)])) rfl (hb hby d3_9) (n := 0) (by decide) (by decide) (by decide) (by decide)
  have f28 := ((Keep.refl h0 [a1])).ext E27
  have f29 := ((Keep.refl h0 [a1])).ext E27
  have f30 := (E1).ext E27
  have f31 := (F1).ext E27
  have f32 := (F2).ext E27
  have Zf33 : n0 ≤ h27.size := Nat.le_trans Z0 E27.1
  have ch34 : CHr Z own_EL s.vm h0 T27.vm h27 := CHr.trans ch25 hC27
  have sa35 : Safe Z own_EL T27.vm h27 a1 := CHr.safe hC27 (E1).lt sa26
  have pre36 : ∀ t, Steps p.tables e below (T27.setTop (mkF m 11 #[.val (.ref a1), .val (.ref c1), .val (.int (0 : Int32)), .val (.int (0 : Int32)), .val .null, .unset] [(.ref a27), (.ref a1)])) t → Steps p.tables e below (s₁.setTop (entryFrame m #[(.ref a1), (.ref c1), (.int (0 : Int32)), (.int (0 : Int32)), .null] 6)) t := fun t kt => pre24 t (st27 _ kt)
  obtain ⟨T37, X37, e37, st37⟩ := getF X27 hx hZ27 hO27 (host := "") (Or.inl (hw _ (List.mem_of_getElem? (i := 24) rfl))) Via.refl e27 Fv27 (g := (mkF m 11 #[.val (.ref a1), .val (.ref c1), .val (.int (0 : Int32)), .val (.int (0 : Int32)), .val .null, .unset] [(.ref a27), (.ref a1)])) rfl rfl (hb hby d3_11)
  have pre38 : ∀ t, Steps p.tables e below (T37.setTop (mkF m 14 #[.val (.ref a1), .val (.ref c1), .val (.int (0 : Int32)), .val (.int (0 : Int32)), .val .null, .unset] [(.ref bb27), (.ref a1)])) t → Steps p.tables e below (s₁.setTop (entryFrame m #[(.ref a1), (.ref c1), (.int (0 : Int32)), (.int (0 : Int32)), .null] 6)) t := fun t kt => pre36 t (st37 _ kt)
  obtain ⟨T39, h39, X39, e39, W39, st39⟩ := putF X37 hx hZ27 hO27 (host := "") (Or.inl (hw _ (List.mem_of_getElem? (i := 24) rfl))) Via.refl e37 f31 f30 (Or.inr ⟨(hw _ (List.mem_of_getElem? (i := 20) rfl)), rfl, hnm⟩) (hw _ (List.mem_of_getElem? (i := 5) rfl)) (ty := (.array .byte)) (by decide) rfl rfl (g := (mkF m 14 #[.val (.ref a1), .val (.ref c1), .val (.int (0 : Int32)), .val (.int (0 : Int32)), .val .null, .unset] [(.ref bb27), (.ref a1)])) rfl rfl (hb hby d3_14)
  have f40 := ((Keep.refl h27 [a1])).wr W39 (Or.inl (by simp))
  have f41 := (f29).wr W39 (Or.inl (List.mem_singleton.mpr rfl))
  have f42 := (f30).wr W39
  have f43 := (f32).other W39 (Or.inr (slot_ne (Or.inr (hw _ (List.mem_of_getElem? (i := 21) rfl))) (Or.inr (hw _ (List.mem_of_getElem? (i := 20) rfl))) (by decide) (t := .byte) (t' := (.array .byte)) (by decide) (by decide)))
  have f44 := (A27).wr W39
  have f45 := (Fc27).other W39 (Or.inl (Ne.symm (hne27 _ sa35).1))
  have f46 := (Fv27).other W39 (Or.inl (Ne.symm (hne27 _ sa35).1))
  have f47 := (Vv27).other W39 (Ne.symm (hne27 _ sa35).2)
  have Fw39 := (f31).same W39
  have Nf48 := Fr.snoc X39 N0 g1
  have Zf49 : n0 ≤ h39.size := Nat.le_trans Zf33 (Keep.of_wr W39).1
  have Kf49 : k27 ≤ h39.size := Nat.le_trans hk27 (Keep.of_wr W39).1
  have pre50 : ∀ t, Steps p.tables e below (T39.setTop (mkF m 17 #[.val (.ref a1), .val (.ref c1), .val (.int (0 : Int32)), .val (.int (0 : Int32)), .val .null, .unset] [])) t → Steps p.tables e below (s₁.setTop (entryFrame m #[(.ref a1), (.ref c1), (.int (0 : Int32)), (.int (0 : Int32)), .null] 6)) t := fun t kt => pre38 t (st39 _ kt)
  have pre51 : ∀ t, Steps p.tables e below (T39.setTop (mkF m 18 #[.val (.ref a1), .val (.ref c1), .val (.int (0 : Int32)), .val (.int (0 : Int32)), .val .null, .unset] [(.ref a1)])) t → Steps p.tables e below (s₁.setTop (entryFrame m #[(.ref a1), (.ref c1), (.int (0 : Int32)), (.int (0 : Int32)), .null] 6)) t := fun t kt => pre50 t (by
    refine XS.aloadN X39.here hx rfl (hb hby d3_17) rfl rfl ?_
    show Steps p.tables e below (T39.setTop (mkF m 18 #[.val (.ref a1), .val (.ref c1), .val (.int (0 : Int32)), .val (.int (0 : Int32)), .val .null, .unset] [(.ref a1)])) _
    exact kt)
  have pre52 : ∀ t, Steps p.tables e below (T39.setTop (mkF m 20 #[.val (.ref a1), .val (.ref c1), .val (.int (0 : Int32)), .val (.int (0 : Int32)), .val .null, .unset] [(.ref a27), (.ref a1)])) t → Steps p.tables e below (s₁.setTop (entryFrame m #[(.ref a1), (.ref c1), (.int (0 : Int32)), (.int (0 : Int32)), .null] 6)) t := fun t kt => pre51 t (ldcAgain (s := s) (vm0 := T27.vm) X39 hx hZ27 hO27 (hw _ (List.mem_of_getElem? (i := 18) rfl)) Lt27 (g := (mkF m 18 #[.val (.ref a1), .val (.ref c1), .val (.int (0 : Int32)), .val (.int (0 : Int32)), .val .null, .unset] [(.ref a1)])) rfl (hb hby d3_18) _ kt)
  obtain ⟨T53, X53, e53, st53⟩ := getF X39 hx hZ27 hO27 (host := "") (Or.inl (hw _ (List.mem_of_getElem? (i := 25) rfl))) Via.refl e39 f45 (g := (mkF m 20 #[.val (.ref a1), .val (.ref c1), .val (.int (0 : Int32)), .val (.int (0 : Int32)), .val .null, .unset] [(.ref a27), (.ref a1)])) rfl rfl (hb hby d3_20)
  have pre54 : ∀ t, Steps p.tables e below (T53.setTop (mkF m 23 #[.val (.ref a1), .val (.ref c1), .val (.int (0 : Int32)), .val (.int (0 : Int32)), .val .null, .unset] [(.int (0 : Int32)), (.ref a1)])) t → Steps p.tables e below (s₁.setTop (entryFrame m #[(.ref a1), (.ref c1), (.int (0 : Int32)), (.int (0 : Int32)), .null] 6)) t := fun t kt => pre52 t (st53 _ kt)
  obtain ⟨T55, h55, X55, e55, W55, st55⟩ := putFN X53 hx hZ27 hO27 (hw _ (List.mem_of_getElem? (i := 25) rfl)) Via.refl e53 f43 f42 (Or.inr ⟨(hw _ (List.mem_of_getElem? (i := 21) rfl)), rfl, hnm⟩) (hw _ (List.mem_of_getElem? (i := 5) rfl)) (ty := .byte) (v' := (.int (0 : Int32))) (by decide) rfl rfl (g := (mkF m 23 #[.val (.ref a1), .val (.ref c1), .val (.int (0 : Int32)), .val (.int (0 : Int32)), .val .null, .unset] [(.int (0 : Int32)), (.ref a1)])) rfl rfl (hb hby d3_23)
  have f56 := (f40).wr W55 (Or.inl (by simp))
  have f57 := (f41).wr W55 (Or.inl (List.mem_singleton.mpr rfl))
  have f58 := (f42).wr W55
  have f59 := (f44).wr W55
  have f60 := (f45).other W55 (Or.inl (Ne.symm (hne27 _ sa35).1))
  have f61 := (f46).other W55 (Or.inl (Ne.symm (hne27 _ sa35).1))
  have f62 := (f47).other W55 (Ne.symm (hne27 _ sa35).2)
  have f63 := (Fw39).other W55 (Or.inr (slot_ne (Or.inr (hw _ (List.mem_of_getElem? (i := 20) rfl))) (Or.inr (hw _ (List.mem_of_getElem? (i := 21) rfl))) (by decide) (t := (.array .byte)) (t' := .byte) (by decide) (by decide)))
  have Fw55 := (f43).same W55
  have Nf64 := Fr.snoc X55 Nf48 g1
  have Zf65 : n0 ≤ h55.size := Nat.le_trans Zf49 (Keep.of_wr W55).1
  have Kf65 : k27 ≤ h55.size := Nat.le_trans Kf49 (Keep.of_wr W55).1
  have pre66 : ∀ t, Steps p.tables e below (T55.setTop (mkF m 26 #[.val (.ref a1), .val (.ref c1), .val (.int (0 : Int32)), .val (.int (0 : Int32)), .val .null, .unset] [])) t → Steps p.tables e below (s₁.setTop (entryFrame m #[(.ref a1), (.ref c1), (.int (0 : Int32)), (.int (0 : Int32)), .null] 6)) t := fun t kt => pre54 t (st55 _ kt)
  have sf68 : ∀ y ∈ ([a1] : List Addr), Safe Z own_EL T27.vm h27 y := (sfS sa35 sf0)
  have ch68 : CHr Z own_EL s.vm h0 T27.vm h55 := CHr.trans ch34 (CHr.keep f56 sf68 (ch34).1)
  have sa69 : Safe Z own_EL T27.vm h55 a1 := Safe.keep f56 sf68 (ch34).1 sa35
  have hCf : CHr Z own_EL s.vm s.heap T55.vm T55.heap := by
    rw [hh, e55]
    exact CHr.trans ch68 (CHv.at (s := s) (vm0 := T27.vm) X55 hZ27 (own_EW hw) (ch68).1)
  obtain ⟨fs, hr, hrun, hended, hRE⟩ := X55.leaveW hS27 (by rw [e55]; exact Kf65) (v := none) (fun _ => rfl)
  refine ⟨_, _, pre66 _ ?_, hrun, hended, _, _, rfl, ?_, hCf, hRE.1, hRE.2.1, hRE.2.2.1, hRE.2.2.2.mono (by decide) (by decide)⟩
  · exact X55.returnOut hx Bd.returns (hb hby d3_26) hr
  · show QE Z a1 h0 n0 _ T55.heap _
    rw [e55]
    exact ⟨rfl, Nf64, f57, f58, Fw55, bb27, kk27, f63, f62⟩
theorem ef_rmE1 (m : MethodId) (x0 : Addr) (x1 : Addr) : entryFrame m #[(.ref x0), (.ref x1)] 2 = mkF m 0 #[.val (.ref x0), .val (.ref x1)] [] := by first | (simp [entryFrame, mkF, argsToLocals, Value.category]; done) | rfl
theorem d2_0 : decode jdk_42_method_3_code 0 = .ok (.aload_n 0, 1) := by decide +kernel
theorem d2_1 : decode jdk_42_method_3_code 1 = .ok (.aload_n 1, 1) := by decide +kernel
theorem d2_2 : decode jdk_42_method_3_code 2 = .ok (.iconst 0, 1) := by decide +kernel
theorem d2_3 : decode jdk_42_method_3_code 3 = .ok (.aload_n 1, 1) := by decide +kernel
theorem d2_4 : decode jdk_42_method_3_code 4 = .ok (.arraylength, 1) := by decide +kernel
theorem d2_5 : decode jdk_42_method_3_code 5 = .ok (.aconst_null, 1) := by decide +kernel
theorem pd__28_5bCIILjava_2flang_2fVoid_3b_29V : parseMethodDescriptor "([CIILjava/lang/Void;)V" = some ⟨[(.array .char), .int, .int, (.object "java/lang/Void")], none⟩ := by decide +kernel
theorem d2_6 : decode jdk_42_method_3_code 6 = .ok (.invokespecial 27, 3) := by decide +kernel
theorem d2_9 : decode jdk_42_method_3_code 9 = .ok (.return_, 1) := by decide +kernel
set_option maxRecDepth 65536 in
set_option maxHeartbeats 40000000 in
theorem rmE1 (l : Launch) (Z : State) (a0 : Array Value) (hw : ∀ d ∈ tables_1, d.before a0 Z = true) (ws : List Jvm.Cond) (a1 c1 : Addr) (u2 : Value) (kc : ClassId) (dc : Value) (h0 : Heap) (n0 : Nat) (Z0 : n0 ≤ h0.size) (E1 : Exa Z h0 a1 "java/lang/String") (g1 : n0 ≤ a1) (F1 : Fld Z h0 a1 "java/lang/String" "value" "[B" .null) (F2 : Fld Z h0 a1 "java/lang/String" "coder" "B" u2) (V1 : Arv Z h0 c1 kc .char (0 : Int32) [] dc) :
    MetFree l (⟨"java/lang/String", "<init>", "([C)V"⟩ : MethodName) (head1 (Jvm.Cond.code (⟨"java/lang/String", "<init>", "([C)V"⟩ : MethodName) jdk_42_method_3_code 2 none :: ws) ({ frames := 2, cells := 2, slots := 4, locals := 29 } : Room)) (fun a U => a = #[(.ref a1), (.ref c1)] ∧ Z.Warmed39 U.vm ∧ U.heap = h0 ∧ CHv Z own_EL U.vm h0) (fun _ _ _ _ _ => True) (fun _ U o U' => ∃ v L, o = .returned v ∧ QE Z a1 h0 n0 v U'.heap L ∧ CHr Z own_EL U.vm U.heap U'.vm U'.heap ∧ ReturnedEndW U o U' L ({ frames := 2, cells := 2, slots := 4, locals := 29 } : Room).cells ({ frames := 2, cells := 2, slots := 4, locals := 29 } : Room).slots) := by
  refine MetFree.of_bodySF (plainFor_of_name pn_java_lang_String) hisR ?_
  intro p e s m args below meth c s₁ Bd hml0 hP hK
  obtain ⟨rfl, hZ, hh, hI⟩ := hP
  have hx := Bd.exec
  have hby := Bd.bytes
  have hml : c.maxLocals = 2 := hml0
  have hown : s.vm.findClass "java/lang/String" = some m.cls := findClass_of_methodNamed Bd.named
  have hnm := (name_of_methodNamed Bd.named Bd.method).1
  have X0 : Stand p l e ({ frames := 2, cells := 2, slots := 4, locals := 29 } : Room) s m #[(.ref a1), (.ref c1)] below meth c s₁ [] 0 0 := Stand.of_body Bd
  have e0 : s₁.heap = h0 := by rw [← hh, Bd.state]; rfl
  have N0 := Fr.nil n0
  have pre0 : ∀ t, Steps p.tables e below (s₁.setTop (mkF m 0 #[.val (.ref a1), .val (.ref c1)] [])) t → Steps p.tables e below (s₁.setTop (entryFrame m #[(.ref a1), (.ref c1)] 2)) t := fun t kt => castTop (ef_rmE1 m a1 c1) kt
  have pre21 : ∀ t, Steps p.tables e below (s₁.setTop (mkF m 4 #[.val (.ref a1), .val (.ref c1)] [(.ref c1), (.int (0 : Int32)), (.ref c1), (.ref a1)])) t → Steps p.tables e below (s₁.setTop (entryFrame m #[(.ref a1), (.ref c1)] 2)) t := fun t kt => pre0 t (by
    refine XS.aloadN X0.here hx rfl (hb hby d2_0) rfl rfl ?_
    show Steps p.tables e below (s₁.setTop (mkF m 1 #[.val (.ref a1), .val (.ref c1)] [(.ref a1)])) _
    refine XS.aloadN X0.here hx rfl (hb hby d2_1) rfl rfl ?_
    show Steps p.tables e below (s₁.setTop (mkF m 2 #[.val (.ref a1), .val (.ref c1)] [(.ref c1), (.ref a1)])) _
    refine XS.iconst X0.here hx rfl (hb hby d2_2) ?_
    show Steps p.tables e below (s₁.setTop (mkF m 3 #[.val (.ref a1), .val (.ref c1)] [(.int (0 : Int32)), (.ref c1), (.ref a1)])) _
    refine XS.aloadN X0.here hx rfl (hb hby d2_3) rfl rfl ?_
    show Steps p.tables e below (s₁.setTop (mkF m 4 #[.val (.ref a1), .val (.ref c1)] [(.ref c1), (.int (0 : Int32)), (.ref c1), (.ref a1)])) _
    exact kt)
  obtain ⟨cl22, Ar22, -, S22, M22, -⟩ := id (V1)
  have pre23 : ∀ t, Steps p.tables e below (s₁.setTop (mkF m 6 #[.val (.ref a1), .val (.ref c1)] [.null, (.int (0 : Int32)), (.int (0 : Int32)), (.ref c1), (.ref a1)])) t → Steps p.tables e below (s₁.setTop (entryFrame m #[(.ref a1), (.ref c1)] 2)) t := fun t kt => pre21 t (by
    refine X0.arraylength hx (by rw [e0]; exact Ar22.1) (State.isArrayOf_alike hZ.alike Ar22.2.1) (g := (mkF m 4 #[.val (.ref a1), .val (.ref c1)] [(.ref c1), (.int (0 : Int32)), (.ref c1), (.ref a1)])) rfl rfl (hb hby d2_4) _ ?_
    rw [len_of S22 M22]
    show Steps p.tables e below (s₁.setTop (mkF m 5 #[.val (.ref a1), .val (.ref c1)] [(.int (0 : Int32)), (.int (0 : Int32)), (.ref c1), (.ref a1)])) _
    refine XS.aconstNull X0.here hx rfl (hb hby d2_5) ?_
    show Steps p.tables e below (s₁.setTop (mkF m 6 #[.val (.ref a1), .val (.ref c1)] [.null, (.int (0 : Int32)), (.int (0 : Int32)), (.ref c1), (.ref a1)])) _
    exact kt)
  have sf25 : ∀ y ∈ ([a1] : List Addr), Safe Z own_EL s.vm h0 y := (sfS (own_safe_null hZ.alike E1 F1) sf0)
  have ch25 : CHr Z own_EL s.vm h0 s.vm h0 := CHr.trans (CHr.refl hI) (CHr.keep (Keep.refl h0 [a1]) sf25 ((CHr.refl hI)).1)
  have sa26 : Safe Z own_EL s.vm h0 a1 := Safe.keep (Keep.refl h0 [a1]) sf25 ((CHr.refl hI)).1 (own_safe_null hZ.alike E1 F1)
  obtain ⟨_, _, ⟨T24, L24, k24, n24⟩, -, X24, hS24, hgr24, ⟨Lc24, hQ24, l24, y24, z24, hC24⟩, st24⟩ := X0.specialBackS hx (y := (⟨"java/lang/String", "<init>", "([CIILjava/lang/Void;)V"⟩ : MethodName)) rfl hown (mvT hZ (hw _ (List.mem_of_getElem? (i := 11) rfl))) (mvT hZ (hw _ (List.mem_of_getElem? (i := 12) rfl))) (mvT hZ (hw _ (List.mem_of_getElem? (i := 14) rfl))) (by decide) (backOfSH (s := s) (vm0 := s.vm) (W := 0) (rmE2 l Z a0 hw [] a1 c1 _ h0 n0 Z0 E1 g1 F1 F2) hZ (hw _ (List.mem_of_getElem? (i := 14) rfl)) (hw _ (List.mem_of_getElem? (i := 6) rfl)) (by decide) (by decide) (own_EW hw) (ch25).1) (g := (mkF m 6 #[.val (.ref a1), .val (.ref c1)] [.null, (.int (0 : Int32)), (.int (0 : Int32)), (.ref c1), (.ref a1)])) rfl (by rw [hml]; rfl) (Steps.refl _) (a := a1) (argsL := [(.ref c1), (.int (0 : Int32)), (.int (0 : Int32)), .null]) (rest := []) (lenOf pd__28_5bCIILjava_2flang_2fVoid_3b_29V rfl) rfl (by show 2 * 0 + _ ≤ _; exact Nat.le_of_eq rfl) (hb hby d2_6) (fun _ _ => ⟨rfl, e0, (by decide : 0 + 2 ≤ _), (by decide : 0 + 4 ≤ _)⟩)
  dsimp only [Pt.U, Pt.locs, Pt.cells, Pt.slots] at X24 l24 y24 z24 st24 hQ24 hC24
  subst l24 y24 z24
  dsimp only [Pt.U] at hS24 hgr24
  have hZ24 : Z.Warmed39 (s.setVm T24.vm).vm := State.Warmed39.trans hZ hS24.1
  have hO24 : (s.setVm T24.vm).vm.findClass "java/lang/String" = some m.cls := (hS24.1.alike.findClass _ _).trans hown
  obtain ⟨rfl, N24q, K24, E24x, Fc24, t24, kt24, Fv24, Va24⟩ := hQ24
  have N24 := Fr.app N0 N24q
  have f27 := ((Keep.refl h0 [a1])).trans K24 (own_all1 (Or.inl (by simp)))
  have f28 := ((Keep.refl h0 [a1])).trans K24 (own_all1 (Or.inl (List.mem_singleton.mpr rfl)))
  have f29 := (E1).keep K24
  have Zf30 : n0 ≤ T24.heap.size := Nat.le_trans Z0 (K24).1
  have ch31 : CHr Z own_EL s.vm h0 T24.vm T24.heap := CHr.trans ch25 hC24
  have sa32 : Safe Z own_EL T24.vm T24.heap a1 := CHr.safe hC24 (E1).lt sa26
  have pre33 : ∀ t, Steps p.tables e below (T24.setTop (mkF m 9 #[.val (.ref a1), .val (.ref c1)] [])) t → Steps p.tables e below (s₁.setTop (entryFrame m #[(.ref a1), (.ref c1)] 2)) t := fun t kt => pre23 t (st24.trans kt)
  have sf35 : ∀ y ∈ ([a1] : List Addr), Safe Z own_EL T24.vm T24.heap y := (sfS sa32 sf0)
  have ch35 : CHr Z own_EL s.vm h0 T24.vm T24.heap := CHr.trans ch31 (CHr.keep (Keep.refl T24.heap [a1]) sf35 (ch31).1)
  have sa36 : Safe Z own_EL T24.vm T24.heap a1 := Safe.keep (Keep.refl T24.heap [a1]) sf35 (ch31).1 sa32
  have hCf : CHr Z own_EL s.vm s.heap T24.vm T24.heap := by
    rw [hh]
    exact CHr.trans ch35 (CHv.at (s := s) (vm0 := T24.vm) X24 hZ24 (own_EW hw) (ch35).1)
  obtain ⟨fs, hr, hrun, hended, hRE⟩ := X24.leaveW hS24 ((Nat.le_refl _)) (v := none) (fun _ => rfl)
  refine ⟨_, _, pre33 _ ?_, hrun, hended, _, _, rfl, ?_, hCf, hRE.1, hRE.2.1, hRE.2.2.1, hRE.2.2.2.mono (by decide) (by decide)⟩
  · exact X24.returnOut hx Bd.returns (hb hby d2_9) hr
  · show QE Z a1 h0 n0 _ T24.heap _
    exact ⟨rfl, N24, f28, E24x, Fc24, t24, kt24, Fv24, Va24⟩
def QMk (Z : State) (h0 : Heap) (n0 : Nat) (v : Option Value) (h : Heap) (L : List Loc) : Prop := ∃ (x t : Addr) (kt : ClassId) (cs : List Int32), v = some (.ref x) ∧ Fr n0 L ∧ Keep h0 h [] ∧ cs.length ≤ 3 ∧ (∀ c ∈ cs, ¬ c < 0 ∧ ¬ (255 : Int32) < c) ∧ Exa Z h x "java/lang/String" ∧ Fld Z h x "java/lang/String" "value" "[B" (.ref t) ∧ Fld Z h x "java/lang/String" "coder" "B" (.int (0 : Int32)) ∧ Arv Z h t kt .byte (Int32.ofNat cs.length) (own_B cs) (.int (0 : Int32))
theorem ef_rmMk (m : MethodId) (x0 : Int32) : entryFrame m #[(.int x0)] 5 = mkF m 0 #[.val (.int x0), .unset, .unset, .unset, .unset] [] := by first | (simp [entryFrame, mkF, argsToLocals, Value.category]; done) | rfl
theorem pn_kakehashi_cli_OptionMissingPinLaw : plainName "kakehashi/cli/OptionMissingPinLaw" = true := by first | (simp [plainName, overriddenIn]; done) | decide +kernel
theorem d1_0 : decode method_5_code 0 = .ok (.iload_n 0, 1) := by decide +kernel
theorem d1_1 : decode method_5_code 1 = .ok (.bipush 24, 2) := by decide +kernel
theorem d1_3 : decode method_5_code 3 = .ok (.iushr, 1) := by decide +kernel
theorem d1_4 : decode method_5_code 4 = .ok (.iconst 3, 1) := by decide +kernel
theorem d1_5 : decode method_5_code 5 = .ok (.iand, 1) := by decide +kernel
theorem d1_6 : decode method_5_code 6 = .ok (.istore_n 1, 1) := by decide +kernel
theorem d1_7 : decode method_5_code 7 = .ok (.iload_n 0, 1) := by decide +kernel
theorem d1_8 : decode method_5_code 8 = .ok (.sipush 255, 3) := by decide +kernel
theorem d1_11 : decode method_5_code 11 = .ok (.iand, 1) := by decide +kernel
theorem d1_12 : decode method_5_code 12 = .ok (.i2c, 1) := by decide +kernel
theorem d1_13 : decode method_5_code 13 = .ok (.istore_n 2, 1) := by decide +kernel
theorem d1_14 : decode method_5_code 14 = .ok (.iload_n 0, 1) := by decide +kernel
theorem d1_15 : decode method_5_code 15 = .ok (.bipush 8, 2) := by decide +kernel
theorem d1_17 : decode method_5_code 17 = .ok (.iushr, 1) := by decide +kernel
theorem d1_18 : decode method_5_code 18 = .ok (.sipush 255, 3) := by decide +kernel
theorem d1_21 : decode method_5_code 21 = .ok (.iand, 1) := by decide +kernel
theorem d1_22 : decode method_5_code 22 = .ok (.i2c, 1) := by decide +kernel
theorem d1_23 : decode method_5_code 23 = .ok (.istore_n 3, 1) := by decide +kernel
theorem d1_24 : decode method_5_code 24 = .ok (.iload_n 0, 1) := by decide +kernel
theorem d1_25 : decode method_5_code 25 = .ok (.bipush 16, 2) := by decide +kernel
theorem d1_27 : decode method_5_code 27 = .ok (.iushr, 1) := by decide +kernel
theorem d1_28 : decode method_5_code 28 = .ok (.sipush 255, 3) := by decide +kernel
theorem d1_31 : decode method_5_code 31 = .ok (.iand, 1) := by decide +kernel
theorem d1_32 : decode method_5_code 32 = .ok (.i2c, 1) := by decide +kernel
theorem d1_33 : decode method_5_code 33 = .ok (.istore 4, 2) := by decide +kernel
theorem d1_35 : decode method_5_code 35 = .ok (.iload_n 1, 1) := by decide +kernel
theorem d1_36 : decode method_5_code 36 = .ok (.ifCond .ne 14, 3) := by decide +kernel
theorem d1_39 : decode method_5_code 39 = .ok (.new 29, 3) := by decide +kernel
theorem d1_42 : decode method_5_code 42 = .ok (.dup, 1) := by decide +kernel
theorem d1_43 : decode method_5_code 43 = .ok (.iconst 0, 1) := by decide +kernel
theorem d1_44 : decode method_5_code 44 = .ok (.newarray .char, 2) := by decide +kernel
theorem pd__28_5bC_29V : parseMethodDescriptor "([C)V" = some ⟨[(.array .char)], none⟩ := by decide +kernel
theorem d1_46 : decode method_5_code 46 = .ok (.invokespecial 48, 3) := by decide +kernel
theorem d1_49 : decode method_5_code 49 = .ok (.areturn, 1) := by decide +kernel
theorem d1_50 : decode method_5_code 50 = .ok (.iload_n 1, 1) := by decide +kernel
theorem d1_51 : decode method_5_code 51 = .ok (.iconst 1, 1) := by decide +kernel
theorem d1_52 : decode method_5_code 52 = .ok (.if_icmp .ne 18, 3) := by decide +kernel
theorem d1_55 : decode method_5_code 55 = .ok (.new 29, 3) := by decide +kernel
theorem d1_58 : decode method_5_code 58 = .ok (.dup, 1) := by decide +kernel
theorem d1_59 : decode method_5_code 59 = .ok (.iconst 1, 1) := by decide +kernel
theorem d1_60 : decode method_5_code 60 = .ok (.newarray .char, 2) := by decide +kernel
theorem d1_62 : decode method_5_code 62 = .ok (.dup, 1) := by decide +kernel
theorem d1_63 : decode method_5_code 63 = .ok (.iconst 0, 1) := by decide +kernel
theorem d1_64 : decode method_5_code 64 = .ok (.iload_n 2, 1) := by decide +kernel
theorem d1_65 : decode method_5_code 65 = .ok (.castore, 1) := by decide +kernel
theorem d1_66 : decode method_5_code 66 = .ok (.invokespecial 48, 3) := by decide +kernel
theorem d1_69 : decode method_5_code 69 = .ok (.areturn, 1) := by decide +kernel
theorem d1_70 : decode method_5_code 70 = .ok (.iload_n 1, 1) := by decide +kernel
theorem d1_71 : decode method_5_code 71 = .ok (.iconst 2, 1) := by decide +kernel
theorem d1_72 : decode method_5_code 72 = .ok (.if_icmp .ne 22, 3) := by decide +kernel
theorem d1_75 : decode method_5_code 75 = .ok (.new 29, 3) := by decide +kernel
theorem d1_78 : decode method_5_code 78 = .ok (.dup, 1) := by decide +kernel
theorem d1_79 : decode method_5_code 79 = .ok (.iconst 2, 1) := by decide +kernel
theorem d1_80 : decode method_5_code 80 = .ok (.newarray .char, 2) := by decide +kernel
theorem d1_82 : decode method_5_code 82 = .ok (.dup, 1) := by decide +kernel
theorem d1_83 : decode method_5_code 83 = .ok (.iconst 0, 1) := by decide +kernel
theorem d1_84 : decode method_5_code 84 = .ok (.iload_n 2, 1) := by decide +kernel
theorem d1_85 : decode method_5_code 85 = .ok (.castore, 1) := by decide +kernel
theorem d1_86 : decode method_5_code 86 = .ok (.dup, 1) := by decide +kernel
theorem d1_87 : decode method_5_code 87 = .ok (.iconst 1, 1) := by decide +kernel
theorem d1_88 : decode method_5_code 88 = .ok (.iload_n 3, 1) := by decide +kernel
theorem d1_89 : decode method_5_code 89 = .ok (.castore, 1) := by decide +kernel
theorem d1_90 : decode method_5_code 90 = .ok (.invokespecial 48, 3) := by decide +kernel
theorem d1_93 : decode method_5_code 93 = .ok (.areturn, 1) := by decide +kernel
theorem d1_94 : decode method_5_code 94 = .ok (.new 29, 3) := by decide +kernel
theorem d1_97 : decode method_5_code 97 = .ok (.dup, 1) := by decide +kernel
theorem d1_98 : decode method_5_code 98 = .ok (.iconst 3, 1) := by decide +kernel
theorem d1_99 : decode method_5_code 99 = .ok (.newarray .char, 2) := by decide +kernel
theorem d1_101 : decode method_5_code 101 = .ok (.dup, 1) := by decide +kernel
theorem d1_102 : decode method_5_code 102 = .ok (.iconst 0, 1) := by decide +kernel
theorem d1_103 : decode method_5_code 103 = .ok (.iload_n 2, 1) := by decide +kernel
theorem d1_104 : decode method_5_code 104 = .ok (.castore, 1) := by decide +kernel
theorem d1_105 : decode method_5_code 105 = .ok (.dup, 1) := by decide +kernel
theorem d1_106 : decode method_5_code 106 = .ok (.iconst 1, 1) := by decide +kernel
theorem d1_107 : decode method_5_code 107 = .ok (.iload_n 3, 1) := by decide +kernel
theorem d1_108 : decode method_5_code 108 = .ok (.castore, 1) := by decide +kernel
theorem d1_109 : decode method_5_code 109 = .ok (.dup, 1) := by decide +kernel
theorem d1_110 : decode method_5_code 110 = .ok (.iconst 2, 1) := by decide +kernel
theorem d1_111 : decode method_5_code 111 = .ok (.iload 4, 2) := by decide +kernel
theorem d1_113 : decode method_5_code 113 = .ok (.castore, 1) := by decide +kernel
theorem d1_114 : decode method_5_code 114 = .ok (.invokespecial 48, 3) := by decide +kernel
theorem d1_117 : decode method_5_code 117 = .ok (.areturn, 1) := by decide +kernel
set_option maxRecDepth 65536 in
set_option maxHeartbeats 40000000 in
theorem rmMk (l : Launch) (Z : State) (a0 : Array Value) (hw : ∀ d ∈ tables_1, d.before a0 Z = true) (ws : List Jvm.Cond) (p1 z0 : Int32) (h0 : Heap) (n0 : Nat) (Z0 : n0 ≤ h0.size) (O0 : OldL Z n0 h0) (S0 : Sta Z Z.heap "java/lang/String" "COMPACT_STRINGS" "Z" (.int z0)) (hz : ¬ z0 = (0 : Int32)) :
    MetFree l (⟨"kakehashi/cli/OptionMissingPinLaw", "make", "(I)Ljava/lang/String;"⟩ : MethodName) (head1 (Jvm.Cond.code (⟨"kakehashi/cli/OptionMissingPinLaw", "make", "(I)Ljava/lang/String;"⟩ : MethodName) method_5_code 5 (some (.object "java/lang/String")) :: ws) ({ frames := 4, cells := 4, slots := 10, locals := 66 } : Room)) (fun a U => a = #[(.int p1)] ∧ Z.Warmed39 U.vm ∧ U.heap = h0 ∧ CHv Z own_EL U.vm h0) (fun _ _ _ _ _ => True) (fun _ U o U' => ∃ v L, o = .returned v ∧ QMk Z  h0 n0 v U'.heap L ∧ CHr Z own_EL U.vm U.heap U'.vm U'.heap ∧ ReturnedEndW U o U' L ({ frames := 4, cells := 4, slots := 10, locals := 66 } : Room).cells ({ frames := 4, cells := 4, slots := 10, locals := 66 } : Room).slots) := by
  refine MetFree.of_bodySF (plainFor_of_name pn_kakehashi_cli_OptionMissingPinLaw) hisR ?_
  intro p e s m args below meth c s₁ Bd hml0 hP hK
  obtain ⟨rfl, hZ, hh, hI⟩ := hP
  have hx := Bd.exec
  have hby := Bd.bytes
  have hml : c.maxLocals = 5 := hml0
  have hown : s.vm.findClass "kakehashi/cli/OptionMissingPinLaw" = some m.cls := findClass_of_methodNamed Bd.named
  have hnm := (name_of_methodNamed Bd.named Bd.method).1
  have X0 : Stand p l e ({ frames := 4, cells := 4, slots := 10, locals := 66 } : Room) s m #[(.int p1)] below meth c s₁ [] 0 0 := Stand.of_body Bd
  have e0 : s₁.heap = h0 := by rw [← hh, Bd.state]; rfl
  have N0 := Fr.nil n0
  have pre0 : ∀ t, Steps p.tables e below (s₁.setTop (mkF m 0 #[.val (.int p1), .unset, .unset, .unset, .unset] [])) t → Steps p.tables e below (s₁.setTop (entryFrame m #[(.int p1)] 5)) t := fun t kt => castTop (ef_rmMk m p1) kt
  have hws : ∀ d ∈ StrChars.Road.words, d.before a0 Z = true := fun d hd => hw d ((by decide +kernel : ∀ d ∈ StrChars.Road.words, d ∈ tables_1) d hd)
  have pre21 : ∀ t, Steps p.tables e below (s₁.setTop (mkF m 36 #[.val (.int p1), .val (.int (((p1.toUInt32 >>> ((24 : Int32) &&& 31).toUInt32).toInt32) &&& (3 : Int32))), .val (.int (p1 &&& (255 : Int32)).toUInt32.toUInt16.toUInt32.toInt32), .val (.int (((p1.toUInt32 >>> ((8 : Int32) &&& 31).toUInt32).toInt32) &&& (255 : Int32)).toUInt32.toUInt16.toUInt32.toInt32), .val (.int (((p1.toUInt32 >>> ((16 : Int32) &&& 31).toUInt32).toInt32) &&& (255 : Int32)).toUInt32.toUInt16.toUInt32.toInt32)] [(.int (((p1.toUInt32 >>> ((24 : Int32) &&& 31).toUInt32).toInt32) &&& (3 : Int32)))])) t → Steps p.tables e below (s₁.setTop (entryFrame m #[(.int p1)] 5)) t := fun t kt => pre0 t (by
    refine XS.iloadN X0.here hx rfl (hb hby d1_0) rfl ?_
    show Steps p.tables e below (s₁.setTop (mkF m 1 #[.val (.int p1), .unset, .unset, .unset, .unset] [(.int p1)])) _
    refine XS.bipush X0.here hx rfl (hb hby d1_1) ?_
    show Steps p.tables e below (s₁.setTop (mkF m 3 #[.val (.int p1), .unset, .unset, .unset, .unset] [(.int (24 : Int32)), (.int p1)])) _
    refine XS.iushr X0.here hx rfl (hb hby d1_3) rfl ?_
    show Steps p.tables e below (s₁.setTop (mkF m 4 #[.val (.int p1), .unset, .unset, .unset, .unset] [(.int ((p1.toUInt32 >>> ((24 : Int32) &&& 31).toUInt32).toInt32))])) _
    refine XS.iconst X0.here hx rfl (hb hby d1_4) ?_
    show Steps p.tables e below (s₁.setTop (mkF m 5 #[.val (.int p1), .unset, .unset, .unset, .unset] [(.int (3 : Int32)), (.int ((p1.toUInt32 >>> ((24 : Int32) &&& 31).toUInt32).toInt32))])) _
    refine XS.iand X0.here hx rfl (hb hby d1_5) rfl ?_
    show Steps p.tables e below (s₁.setTop (mkF m 6 #[.val (.int p1), .unset, .unset, .unset, .unset] [(.int (((p1.toUInt32 >>> ((24 : Int32) &&& 31).toUInt32).toInt32) &&& (3 : Int32)))])) _
    refine XS.istoreN X0.here hx rfl (hb hby d1_6) rfl (l' := #[.val (.int p1), .val (.int (((p1.toUInt32 >>> ((24 : Int32) &&& 31).toUInt32).toInt32) &&& (3 : Int32))), .unset, .unset, .unset]) rfl ?_
    show Steps p.tables e below (s₁.setTop (mkF m 7 #[.val (.int p1), .val (.int (((p1.toUInt32 >>> ((24 : Int32) &&& 31).toUInt32).toInt32) &&& (3 : Int32))), .unset, .unset, .unset] [])) _
    refine XS.iloadN X0.here hx rfl (hb hby d1_7) rfl ?_
    show Steps p.tables e below (s₁.setTop (mkF m 8 #[.val (.int p1), .val (.int (((p1.toUInt32 >>> ((24 : Int32) &&& 31).toUInt32).toInt32) &&& (3 : Int32))), .unset, .unset, .unset] [(.int p1)])) _
    refine XS.sipush X0.here hx rfl (hb hby d1_8) ?_
    show Steps p.tables e below (s₁.setTop (mkF m 11 #[.val (.int p1), .val (.int (((p1.toUInt32 >>> ((24 : Int32) &&& 31).toUInt32).toInt32) &&& (3 : Int32))), .unset, .unset, .unset] [(.int (255 : Int32)), (.int p1)])) _
    refine XS.iand X0.here hx rfl (hb hby d1_11) rfl ?_
    show Steps p.tables e below (s₁.setTop (mkF m 12 #[.val (.int p1), .val (.int (((p1.toUInt32 >>> ((24 : Int32) &&& 31).toUInt32).toInt32) &&& (3 : Int32))), .unset, .unset, .unset] [(.int (p1 &&& (255 : Int32)))])) _
    refine XS.i2c X0.here hx rfl (hb hby d1_12) rfl ?_
    show Steps p.tables e below (s₁.setTop (mkF m 13 #[.val (.int p1), .val (.int (((p1.toUInt32 >>> ((24 : Int32) &&& 31).toUInt32).toInt32) &&& (3 : Int32))), .unset, .unset, .unset] [(.int (p1 &&& (255 : Int32)).toUInt32.toUInt16.toUInt32.toInt32)])) _
    refine XS.istoreN X0.here hx rfl (hb hby d1_13) rfl (l' := #[.val (.int p1), .val (.int (((p1.toUInt32 >>> ((24 : Int32) &&& 31).toUInt32).toInt32) &&& (3 : Int32))), .val (.int (p1 &&& (255 : Int32)).toUInt32.toUInt16.toUInt32.toInt32), .unset, .unset]) rfl ?_
    show Steps p.tables e below (s₁.setTop (mkF m 14 #[.val (.int p1), .val (.int (((p1.toUInt32 >>> ((24 : Int32) &&& 31).toUInt32).toInt32) &&& (3 : Int32))), .val (.int (p1 &&& (255 : Int32)).toUInt32.toUInt16.toUInt32.toInt32), .unset, .unset] [])) _
    refine XS.iloadN X0.here hx rfl (hb hby d1_14) rfl ?_
    show Steps p.tables e below (s₁.setTop (mkF m 15 #[.val (.int p1), .val (.int (((p1.toUInt32 >>> ((24 : Int32) &&& 31).toUInt32).toInt32) &&& (3 : Int32))), .val (.int (p1 &&& (255 : Int32)).toUInt32.toUInt16.toUInt32.toInt32), .unset, .unset] [(.int p1)])) _
    refine XS.bipush X0.here hx rfl (hb hby d1_15) ?_
    show Steps p.tables e below (s₁.setTop (mkF m 17 #[.val (.int p1), .val (.int (((p1.toUInt32 >>> ((24 : Int32) &&& 31).toUInt32).toInt32) &&& (3 : Int32))), .val (.int (p1 &&& (255 : Int32)).toUInt32.toUInt16.toUInt32.toInt32), .unset, .unset] [(.int (8 : Int32)), (.int p1)])) _
    refine XS.iushr X0.here hx rfl (hb hby d1_17) rfl ?_
    show Steps p.tables e below (s₁.setTop (mkF m 18 #[.val (.int p1), .val (.int (((p1.toUInt32 >>> ((24 : Int32) &&& 31).toUInt32).toInt32) &&& (3 : Int32))), .val (.int (p1 &&& (255 : Int32)).toUInt32.toUInt16.toUInt32.toInt32), .unset, .unset] [(.int ((p1.toUInt32 >>> ((8 : Int32) &&& 31).toUInt32).toInt32))])) _
    refine XS.sipush X0.here hx rfl (hb hby d1_18) ?_
    show Steps p.tables e below (s₁.setTop (mkF m 21 #[.val (.int p1), .val (.int (((p1.toUInt32 >>> ((24 : Int32) &&& 31).toUInt32).toInt32) &&& (3 : Int32))), .val (.int (p1 &&& (255 : Int32)).toUInt32.toUInt16.toUInt32.toInt32), .unset, .unset] [(.int (255 : Int32)), (.int ((p1.toUInt32 >>> ((8 : Int32) &&& 31).toUInt32).toInt32))])) _
    refine XS.iand X0.here hx rfl (hb hby d1_21) rfl ?_
    show Steps p.tables e below (s₁.setTop (mkF m 22 #[.val (.int p1), .val (.int (((p1.toUInt32 >>> ((24 : Int32) &&& 31).toUInt32).toInt32) &&& (3 : Int32))), .val (.int (p1 &&& (255 : Int32)).toUInt32.toUInt16.toUInt32.toInt32), .unset, .unset] [(.int (((p1.toUInt32 >>> ((8 : Int32) &&& 31).toUInt32).toInt32) &&& (255 : Int32)))])) _
    refine XS.i2c X0.here hx rfl (hb hby d1_22) rfl ?_
    show Steps p.tables e below (s₁.setTop (mkF m 23 #[.val (.int p1), .val (.int (((p1.toUInt32 >>> ((24 : Int32) &&& 31).toUInt32).toInt32) &&& (3 : Int32))), .val (.int (p1 &&& (255 : Int32)).toUInt32.toUInt16.toUInt32.toInt32), .unset, .unset] [(.int (((p1.toUInt32 >>> ((8 : Int32) &&& 31).toUInt32).toInt32) &&& (255 : Int32)).toUInt32.toUInt16.toUInt32.toInt32)])) _
    refine XS.istoreN X0.here hx rfl (hb hby d1_23) rfl (l' := #[.val (.int p1), .val (.int (((p1.toUInt32 >>> ((24 : Int32) &&& 31).toUInt32).toInt32) &&& (3 : Int32))), .val (.int (p1 &&& (255 : Int32)).toUInt32.toUInt16.toUInt32.toInt32), .val (.int (((p1.toUInt32 >>> ((8 : Int32) &&& 31).toUInt32).toInt32) &&& (255 : Int32)).toUInt32.toUInt16.toUInt32.toInt32), .unset]) rfl ?_
    show Steps p.tables e below (s₁.setTop (mkF m 24 #[.val (.int p1), .val (.int (((p1.toUInt32 >>> ((24 : Int32) &&& 31).toUInt32).toInt32) &&& (3 : Int32))), .val (.int (p1 &&& (255 : Int32)).toUInt32.toUInt16.toUInt32.toInt32), .val (.int (((p1.toUInt32 >>> ((8 : Int32) &&& 31).toUInt32).toInt32) &&& (255 : Int32)).toUInt32.toUInt16.toUInt32.toInt32), .unset] [])) _
    refine XS.iloadN X0.here hx rfl (hb hby d1_24) rfl ?_
    show Steps p.tables e below (s₁.setTop (mkF m 25 #[.val (.int p1), .val (.int (((p1.toUInt32 >>> ((24 : Int32) &&& 31).toUInt32).toInt32) &&& (3 : Int32))), .val (.int (p1 &&& (255 : Int32)).toUInt32.toUInt16.toUInt32.toInt32), .val (.int (((p1.toUInt32 >>> ((8 : Int32) &&& 31).toUInt32).toInt32) &&& (255 : Int32)).toUInt32.toUInt16.toUInt32.toInt32), .unset] [(.int p1)])) _
    refine XS.bipush X0.here hx rfl (hb hby d1_25) ?_
    show Steps p.tables e below (s₁.setTop (mkF m 27 #[.val (.int p1), .val (.int (((p1.toUInt32 >>> ((24 : Int32) &&& 31).toUInt32).toInt32) &&& (3 : Int32))), .val (.int (p1 &&& (255 : Int32)).toUInt32.toUInt16.toUInt32.toInt32), .val (.int (((p1.toUInt32 >>> ((8 : Int32) &&& 31).toUInt32).toInt32) &&& (255 : Int32)).toUInt32.toUInt16.toUInt32.toInt32), .unset] [(.int (16 : Int32)), (.int p1)])) _
    refine XS.iushr X0.here hx rfl (hb hby d1_27) rfl ?_
    show Steps p.tables e below (s₁.setTop (mkF m 28 #[.val (.int p1), .val (.int (((p1.toUInt32 >>> ((24 : Int32) &&& 31).toUInt32).toInt32) &&& (3 : Int32))), .val (.int (p1 &&& (255 : Int32)).toUInt32.toUInt16.toUInt32.toInt32), .val (.int (((p1.toUInt32 >>> ((8 : Int32) &&& 31).toUInt32).toInt32) &&& (255 : Int32)).toUInt32.toUInt16.toUInt32.toInt32), .unset] [(.int ((p1.toUInt32 >>> ((16 : Int32) &&& 31).toUInt32).toInt32))])) _
    refine XS.sipush X0.here hx rfl (hb hby d1_28) ?_
    show Steps p.tables e below (s₁.setTop (mkF m 31 #[.val (.int p1), .val (.int (((p1.toUInt32 >>> ((24 : Int32) &&& 31).toUInt32).toInt32) &&& (3 : Int32))), .val (.int (p1 &&& (255 : Int32)).toUInt32.toUInt16.toUInt32.toInt32), .val (.int (((p1.toUInt32 >>> ((8 : Int32) &&& 31).toUInt32).toInt32) &&& (255 : Int32)).toUInt32.toUInt16.toUInt32.toInt32), .unset] [(.int (255 : Int32)), (.int ((p1.toUInt32 >>> ((16 : Int32) &&& 31).toUInt32).toInt32))])) _
    refine XS.iand X0.here hx rfl (hb hby d1_31) rfl ?_
    show Steps p.tables e below (s₁.setTop (mkF m 32 #[.val (.int p1), .val (.int (((p1.toUInt32 >>> ((24 : Int32) &&& 31).toUInt32).toInt32) &&& (3 : Int32))), .val (.int (p1 &&& (255 : Int32)).toUInt32.toUInt16.toUInt32.toInt32), .val (.int (((p1.toUInt32 >>> ((8 : Int32) &&& 31).toUInt32).toInt32) &&& (255 : Int32)).toUInt32.toUInt16.toUInt32.toInt32), .unset] [(.int (((p1.toUInt32 >>> ((16 : Int32) &&& 31).toUInt32).toInt32) &&& (255 : Int32)))])) _
    refine XS.i2c X0.here hx rfl (hb hby d1_32) rfl ?_
    show Steps p.tables e below (s₁.setTop (mkF m 33 #[.val (.int p1), .val (.int (((p1.toUInt32 >>> ((24 : Int32) &&& 31).toUInt32).toInt32) &&& (3 : Int32))), .val (.int (p1 &&& (255 : Int32)).toUInt32.toUInt16.toUInt32.toInt32), .val (.int (((p1.toUInt32 >>> ((8 : Int32) &&& 31).toUInt32).toInt32) &&& (255 : Int32)).toUInt32.toUInt16.toUInt32.toInt32), .unset] [(.int (((p1.toUInt32 >>> ((16 : Int32) &&& 31).toUInt32).toInt32) &&& (255 : Int32)).toUInt32.toUInt16.toUInt32.toInt32)])) _
    refine XS.istore X0.here hx rfl (hb hby d1_33) rfl (l' := #[.val (.int p1), .val (.int (((p1.toUInt32 >>> ((24 : Int32) &&& 31).toUInt32).toInt32) &&& (3 : Int32))), .val (.int (p1 &&& (255 : Int32)).toUInt32.toUInt16.toUInt32.toInt32), .val (.int (((p1.toUInt32 >>> ((8 : Int32) &&& 31).toUInt32).toInt32) &&& (255 : Int32)).toUInt32.toUInt16.toUInt32.toInt32), .val (.int (((p1.toUInt32 >>> ((16 : Int32) &&& 31).toUInt32).toInt32) &&& (255 : Int32)).toUInt32.toUInt16.toUInt32.toInt32)]) rfl ?_
    show Steps p.tables e below (s₁.setTop (mkF m 35 #[.val (.int p1), .val (.int (((p1.toUInt32 >>> ((24 : Int32) &&& 31).toUInt32).toInt32) &&& (3 : Int32))), .val (.int (p1 &&& (255 : Int32)).toUInt32.toUInt16.toUInt32.toInt32), .val (.int (((p1.toUInt32 >>> ((8 : Int32) &&& 31).toUInt32).toInt32) &&& (255 : Int32)).toUInt32.toUInt16.toUInt32.toInt32), .val (.int (((p1.toUInt32 >>> ((16 : Int32) &&& 31).toUInt32).toInt32) &&& (255 : Int32)).toUInt32.toUInt16.toUInt32.toInt32)] [])) _
    refine XS.iloadN X0.here hx rfl (hb hby d1_35) rfl ?_
    show Steps p.tables e below (s₁.setTop (mkF m 36 #[.val (.int p1), .val (.int (((p1.toUInt32 >>> ((24 : Int32) &&& 31).toUInt32).toInt32) &&& (3 : Int32))), .val (.int (p1 &&& (255 : Int32)).toUInt32.toUInt16.toUInt32.toInt32), .val (.int (((p1.toUInt32 >>> ((8 : Int32) &&& 31).toUInt32).toInt32) &&& (255 : Int32)).toUInt32.toUInt16.toUInt32.toInt32), .val (.int (((p1.toUInt32 >>> ((16 : Int32) &&& 31).toUInt32).toInt32) &&& (255 : Int32)).toUInt32.toUInt16.toUInt32.toInt32)] [(.int (((p1.toUInt32 >>> ((24 : Int32) &&& 31).toUInt32).toInt32) &&& (3 : Int32)))])) _
    exact kt)
  by_cases c36_1 : (((p1.toUInt32 >>> ((24 : Int32) &&& 31).toUInt32).toInt32) &&& (3 : Int32)) = (0 : Int32)
  · have pre22 : ∀ t, Steps p.tables e below (s₁.setTop (mkF m 39 #[.val (.int p1), .val (.int (((p1.toUInt32 >>> ((24 : Int32) &&& 31).toUInt32).toInt32) &&& (3 : Int32))), .val (.int (p1 &&& (255 : Int32)).toUInt32.toUInt16.toUInt32.toInt32), .val (.int (((p1.toUInt32 >>> ((8 : Int32) &&& 31).toUInt32).toInt32) &&& (255 : Int32)).toUInt32.toUInt16.toUInt32.toInt32), .val (.int (((p1.toUInt32 >>> ((16 : Int32) &&& 31).toUInt32).toInt32) &&& (255 : Int32)).toUInt32.toUInt16.toUInt32.toInt32)] [])) t → Steps p.tables e below (s₁.setTop (entryFrame m #[(.int p1)] 5)) t := fun t kt => pre21 t (by
      refine XS.ifNo X0.here hx rfl (hb hby d1_36) rfl ((if0 _ _).trans (teq c36_1).2) ?_
      show Steps p.tables e below (s₁.setTop (mkF m 39 #[.val (.int p1), .val (.int (((p1.toUInt32 >>> ((24 : Int32) &&& 31).toUInt32).toInt32) &&& (3 : Int32))), .val (.int (p1 &&& (255 : Int32)).toUInt32.toUInt16.toUInt32.toInt32), .val (.int (((p1.toUInt32 >>> ((8 : Int32) &&& 31).toUInt32).toInt32) &&& (255 : Int32)).toUInt32.toUInt16.toUInt32.toInt32), .val (.int (((p1.toUInt32 >>> ((16 : Int32) &&& 31).toUInt32).toInt32) &&& (255 : Int32)).toUInt32.toUInt16.toUInt32.toInt32)] [])) _
      exact kt)
    obtain ⟨T23, h23, X23, e23, E23, A23, D23, -, st23⟩ := newO X0 hx hZ hown (hw _ (List.mem_of_getElem? (i := 4) rfl)) (hw _ (List.mem_of_getElem? (i := 5) rfl)) (hw _ (List.mem_of_getElem? (i := 6) rfl)) e0 (g := (mkF m 39 #[.val (.int p1), .val (.int (((p1.toUInt32 >>> ((24 : Int32) &&& 31).toUInt32).toInt32) &&& (3 : Int32))), .val (.int (p1 &&& (255 : Int32)).toUInt32.toUInt16.toUInt32.toInt32), .val (.int (((p1.toUInt32 >>> ((8 : Int32) &&& 31).toUInt32).toInt32) &&& (255 : Int32)).toUInt32.toUInt16.toUInt32.toInt32), .val (.int (((p1.toUInt32 >>> ((16 : Int32) &&& 31).toUInt32).toInt32) &&& (255 : Int32)).toUInt32.toUInt16.toUInt32.toInt32)] [])) rfl (hb hby d1_39) (by decide) (by decide)
    obtain ⟨b23, g23⟩ : ∃ z, z = h0.size := ⟨_, rfl⟩
    rw [← g23] at A23 D23 st23
    have gz24 : n0 ≤ b23 := Nat.le_trans Z0 (Nat.le_of_eq g23.symm)
    have f26 := ((Keep.refl h0 [])).ext E23
    have f27 := (O0).ext E23
    have f28 := ((Keep.refl h0 [])).ext E23
    have Zf29 : n0 ≤ h23.size := Nat.le_trans Z0 E23.1
    have F23_value : Fld Z h23 b23 "java/lang/String" "value" "[B" .null := D23 (Or.inr (hw _ (List.mem_of_getElem? (i := 20) rfl))) (ty := (.array .byte)) (by decide)
    have F23_coder : Fld Z h23 b23 "java/lang/String" "coder" "B" (.int (0 : Int32)) := D23 (Or.inr (hw _ (List.mem_of_getElem? (i := 21) rfl))) (ty := .byte) (by decide)
    have pre30 : ∀ t, Steps p.tables e below (T23.setTop (mkF m 42 #[.val (.int p1), .val (.int (((p1.toUInt32 >>> ((24 : Int32) &&& 31).toUInt32).toInt32) &&& (3 : Int32))), .val (.int (p1 &&& (255 : Int32)).toUInt32.toUInt16.toUInt32.toInt32), .val (.int (((p1.toUInt32 >>> ((8 : Int32) &&& 31).toUInt32).toInt32) &&& (255 : Int32)).toUInt32.toUInt16.toUInt32.toInt32), .val (.int (((p1.toUInt32 >>> ((16 : Int32) &&& 31).toUInt32).toInt32) &&& (255 : Int32)).toUInt32.toUInt16.toUInt32.toInt32)] [(.ref b23)])) t → Steps p.tables e below (s₁.setTop (entryFrame m #[(.int p1)] 5)) t := fun t kt => pre22 t (st23 _ kt)
    have pre31 : ∀ t, Steps p.tables e below (T23.setTop (mkF m 44 #[.val (.int p1), .val (.int (((p1.toUInt32 >>> ((24 : Int32) &&& 31).toUInt32).toInt32) &&& (3 : Int32))), .val (.int (p1 &&& (255 : Int32)).toUInt32.toUInt16.toUInt32.toInt32), .val (.int (((p1.toUInt32 >>> ((8 : Int32) &&& 31).toUInt32).toInt32) &&& (255 : Int32)).toUInt32.toUInt16.toUInt32.toInt32), .val (.int (((p1.toUInt32 >>> ((16 : Int32) &&& 31).toUInt32).toInt32) &&& (255 : Int32)).toUInt32.toUInt16.toUInt32.toInt32)] [(.int (0 : Int32)), (.ref b23), (.ref b23)])) t → Steps p.tables e below (s₁.setTop (entryFrame m #[(.int p1)] 5)) t := fun t kt => pre30 t (by
      refine XS.dup X23.here hx rfl (hb hby d1_42) rfl rfl ?_
      show Steps p.tables e below (T23.setTop (mkF m 43 #[.val (.int p1), .val (.int (((p1.toUInt32 >>> ((24 : Int32) &&& 31).toUInt32).toInt32) &&& (3 : Int32))), .val (.int (p1 &&& (255 : Int32)).toUInt32.toUInt16.toUInt32.toInt32), .val (.int (((p1.toUInt32 >>> ((8 : Int32) &&& 31).toUInt32).toInt32) &&& (255 : Int32)).toUInt32.toUInt16.toUInt32.toInt32), .val (.int (((p1.toUInt32 >>> ((16 : Int32) &&& 31).toUInt32).toInt32) &&& (255 : Int32)).toUInt32.toUInt16.toUInt32.toInt32)] [(.ref b23), (.ref b23)])) _
      refine XS.iconst X23.here hx rfl (hb hby d1_43) ?_
      show Steps p.tables e below (T23.setTop (mkF m 44 #[.val (.int p1), .val (.int (((p1.toUInt32 >>> ((24 : Int32) &&& 31).toUInt32).toInt32) &&& (3 : Int32))), .val (.int (p1 &&& (255 : Int32)).toUInt32.toUInt16.toUInt32.toInt32), .val (.int (((p1.toUInt32 >>> ((8 : Int32) &&& 31).toUInt32).toInt32) &&& (255 : Int32)).toUInt32.toUInt16.toUInt32.toInt32), .val (.int (((p1.toUInt32 >>> ((16 : Int32) &&& 31).toUInt32).toInt32) &&& (255 : Int32)).toUInt32.toUInt16.toUInt32.toInt32)] [(.int (0 : Int32)), (.ref b23), (.ref b23)])) _
      exact kt)
    obtain ⟨T32, h32, k32, X32, e32, E32, A32, st32⟩ := newP X23 hx hZ (hw _ (List.mem_of_getElem? (i := 7) rfl)) e23 (g := (mkF m 44 #[.val (.int p1), .val (.int (((p1.toUInt32 >>> ((24 : Int32) &&& 31).toUInt32).toInt32) &&& (3 : Int32))), .val (.int (p1 &&& (255 : Int32)).toUInt32.toUInt16.toUInt32.toInt32), .val (.int (((p1.toUInt32 >>> ((8 : Int32) &&& 31).toUInt32).toInt32) &&& (255 : Int32)).toUInt32.toUInt16.toUInt32.toInt32), .val (.int (((p1.toUInt32 >>> ((16 : Int32) &&& 31).toUInt32).toInt32) &&& (255 : Int32)).toUInt32.toUInt16.toUInt32.toInt32)] [(.int (0 : Int32)), (.ref b23), (.ref b23)])) rfl (hb hby d1_44) rfl (by decide) (cap := 0) (by decide) (by decide) (by decide) (by decide)
    obtain ⟨b32, g32⟩ : ∃ z, z = h23.size := ⟨_, rfl⟩
    rw [← g32] at A32 st32
    have ne33 : b23 ≠ b32 := Nat.ne_of_lt (Nat.lt_of_lt_of_le (A23).lt (Nat.le_of_eq g32.symm))
    have gz34 : n0 ≤ b32 := Nat.le_trans Zf29 (Nat.le_of_eq g32.symm)
    have f36 := (f26).ext E32
    have f37 := (f27).ext E32
    have f38 := (f28).ext E32
    have f39 := (A23).ext E32
    have f40 := (F23_value).ext E32
    have f41 := (F23_coder).ext E32
    have Zf42 : n0 ≤ h32.size := Nat.le_trans Zf29 E32.1
    have V32 : Arv Z h32 b32 k32 .char (0 : Int32) [] (.int (0 : Int32)) := (Arv.new A32 (by decide)).pad (pad_rep [] (.int (0 : Int32)) 0)
    have pre43 : ∀ t, Steps p.tables e below (T32.setTop (mkF m 46 #[.val (.int p1), .val (.int (((p1.toUInt32 >>> ((24 : Int32) &&& 31).toUInt32).toInt32) &&& (3 : Int32))), .val (.int (p1 &&& (255 : Int32)).toUInt32.toUInt16.toUInt32.toInt32), .val (.int (((p1.toUInt32 >>> ((8 : Int32) &&& 31).toUInt32).toInt32) &&& (255 : Int32)).toUInt32.toUInt16.toUInt32.toInt32), .val (.int (((p1.toUInt32 >>> ((16 : Int32) &&& 31).toUInt32).toInt32) &&& (255 : Int32)).toUInt32.toUInt16.toUInt32.toInt32)] [(.ref b32), (.ref b23), (.ref b23)])) t → Steps p.tables e below (s₁.setTop (entryFrame m #[(.int p1)] 5)) t := fun t kt => pre31 t (st32 _ kt)
    have sf45 : ∀ y ∈ ([] : List Addr), Safe Z own_EL s.vm h0 y := sf0
    have ch45 : CHr Z own_EL s.vm h0 s.vm h32 := CHr.trans (CHr.refl hI) (CHr.keep f36 sf45 ((CHr.refl hI)).1)
    have sa46 : Safe Z own_EL s.vm h32 b23 := own_safe f36 sf45 ((CHr.refl hI)).1 ((Nat.le_trans ((Keep.refl h0 [])).1 (Nat.le_of_eq g23.symm)))
    have sa47 : Safe Z own_EL s.vm h32 b32 := own_safe f36 sf45 ((CHr.refl hI)).1 ((Nat.le_trans (f26).1 (Nat.le_of_eq g32.symm)))
    obtain ⟨_, _, ⟨T44, L44, k44, n44⟩, -, X44, hS44, hgr44, ⟨Lc44, hQ44, l44, y44, z44, hC44⟩, st44⟩ := X32.specialBackS hx (y := (⟨"java/lang/String", "<init>", "([C)V"⟩ : MethodName)) rfl hown (mvT hZ (hw _ (List.mem_of_getElem? (i := 8) rfl))) (mvT hZ (hw _ (List.mem_of_getElem? (i := 9) rfl))) (mvT hZ (hw _ (List.mem_of_getElem? (i := 10) rfl))) (by decide) (backOfSH (s := s) (vm0 := s.vm) (W := 1) (rmE1 l Z a0 hw [] b23 b32 _ _ _ h32 n0 Zf42 f39 gz24 f40 f41 V32) hZ (hw _ (List.mem_of_getElem? (i := 10) rfl)) (hw _ (List.mem_of_getElem? (i := 6) rfl)) (by decide) (by decide) (own_EW hw) (ch45).1) (g := (mkF m 46 #[.val (.int p1), .val (.int (((p1.toUInt32 >>> ((24 : Int32) &&& 31).toUInt32).toInt32) &&& (3 : Int32))), .val (.int (p1 &&& (255 : Int32)).toUInt32.toUInt16.toUInt32.toInt32), .val (.int (((p1.toUInt32 >>> ((8 : Int32) &&& 31).toUInt32).toInt32) &&& (255 : Int32)).toUInt32.toUInt16.toUInt32.toInt32), .val (.int (((p1.toUInt32 >>> ((16 : Int32) &&& 31).toUInt32).toInt32) &&& (255 : Int32)).toUInt32.toUInt16.toUInt32.toInt32)] [(.ref b32), (.ref b23), (.ref b23)])) rfl (by rw [hml]; rfl) (Steps.refl _) (a := b23) (argsL := [(.ref b32)]) (rest := [(.ref b23)]) (lenOf pd__28_5bC_29V rfl) rfl (by show 2 * 0 + _ ≤ _; exact Nat.le_of_eq rfl) (hb hby d1_46) (fun _ _ => ⟨rfl, e32, (by decide : 2 + 2 ≤ _), (by decide : 4 + 4 ≤ _)⟩)
    dsimp only [Pt.U, Pt.locs, Pt.cells, Pt.slots] at X44 l44 y44 z44 st44 hQ44 hC44
    subst l44 y44 z44
    dsimp only [Pt.U] at hS44 hgr44
    have hZ44 : Z.Warmed39 (s.setVm T44.vm).vm := State.Warmed39.trans hZ hS44.1
    have hO44 : (s.setVm T44.vm).vm.findClass "kakehashi/cli/OptionMissingPinLaw" = some m.cls := (hS44.1.alike.findClass _ _).trans hown
    obtain ⟨rfl, N44q, K44, E44x, Fc44, t44, kt44, Fv44, Va44⟩ := hQ44
    have N44 := Fr.app N0 N44q
    have f48 := ((Keep.refl h32 [b23, b32])).trans K44 (own_all1 (Or.inl (by simp)))
    have f49 := (f37).keep K44 (own_all1 gz24)
    have f50 := (f38).trans K44 (own_all1 ((Or.inr (Nat.le_trans ((Keep.refl h0 [])).1 (Nat.le_of_eq g23.symm)))))
    have f51 := (f39).keep K44
    have f52 := (V32).keep K44 (own_notin1 (Ne.symm ne33))
    have Zf53 : n0 ≤ T44.heap.size := Nat.le_trans Zf42 (K44).1
    have ch54 : CHr Z own_EL s.vm h0 T44.vm T44.heap := CHr.trans ch45 hC44
    have sa55 : Safe Z own_EL T44.vm T44.heap b23 := CHr.safe hC44 (f39).lt sa46
    have sa56 : Safe Z own_EL T44.vm T44.heap b32 := CHr.safe hC44 (V32).lt sa47
    have pre57 : ∀ t, Steps p.tables e below (T44.setTop (mkF m 49 #[.val (.int p1), .val (.int (((p1.toUInt32 >>> ((24 : Int32) &&& 31).toUInt32).toInt32) &&& (3 : Int32))), .val (.int (p1 &&& (255 : Int32)).toUInt32.toUInt16.toUInt32.toInt32), .val (.int (((p1.toUInt32 >>> ((8 : Int32) &&& 31).toUInt32).toInt32) &&& (255 : Int32)).toUInt32.toUInt16.toUInt32.toInt32), .val (.int (((p1.toUInt32 >>> ((16 : Int32) &&& 31).toUInt32).toInt32) &&& (255 : Int32)).toUInt32.toUInt16.toUInt32.toInt32)] [(.ref b23)])) t → Steps p.tables e below (s₁.setTop (entryFrame m #[(.int p1)] 5)) t := fun t kt => pre43 t (st44.trans kt)
    have sf59 : ∀ y ∈ ([b23, b32] : List Addr), Safe Z own_EL T44.vm T44.heap y := (sfS sa55 (sfS sa56 sf0))
    have ch59 : CHr Z own_EL s.vm h0 T44.vm T44.heap := CHr.trans ch54 (CHr.keep (Keep.refl T44.heap [b23, b32]) sf59 (ch54).1)
    have sa60 : Safe Z own_EL T44.vm T44.heap b23 := Safe.keep (Keep.refl T44.heap [b23, b32]) sf59 (ch54).1 sa55
    have sa61 : Safe Z own_EL T44.vm T44.heap b32 := Safe.keep (Keep.refl T44.heap [b23, b32]) sf59 (ch54).1 sa56
    have hCf : CHr Z own_EL s.vm s.heap T44.vm T44.heap := by
      rw [hh]
      exact CHr.trans ch59 (CHv.at (s := s) (vm0 := T44.vm) X44 hZ44 (own_EW hw) (ch59).1)
    obtain ⟨fs, hr, hrun, hended, hRE⟩ := X44.leaveW hS44 ((Nat.le_refl _)) (v := (some (.ref b23))) (fun h => by rw [Bd.returns] at h; cases h)
    refine ⟨_, _, pre57 _ ?_, hrun, hended, _, _, rfl, ?_, hCf, hRE.1, hRE.2.1, hRE.2.2.1, hRE.2.2.2.mono (by decide) (by decide)⟩
    · exact retOut X44 hx Bd.returns rfl (Or.inr (Or.inr (Or.inr (Or.inr ⟨rfl, rfl, rfl⟩)))) (hb hby d1_49) hr
    · show QMk Z  h0 n0 _ T44.heap _
      exact ⟨_, _, _, [], rfl, N44, f50, Nat.le_of_ble_eq_true rfl, (fun _ q => nomatch q), E44x, Fv44, Fc44, Va44⟩
  · have pre62 : ∀ t, Steps p.tables e below (s₁.setTop (mkF m 52 #[.val (.int p1), .val (.int (((p1.toUInt32 >>> ((24 : Int32) &&& 31).toUInt32).toInt32) &&& (3 : Int32))), .val (.int (p1 &&& (255 : Int32)).toUInt32.toUInt16.toUInt32.toInt32), .val (.int (((p1.toUInt32 >>> ((8 : Int32) &&& 31).toUInt32).toInt32) &&& (255 : Int32)).toUInt32.toUInt16.toUInt32.toInt32), .val (.int (((p1.toUInt32 >>> ((16 : Int32) &&& 31).toUInt32).toInt32) &&& (255 : Int32)).toUInt32.toUInt16.toUInt32.toInt32)] [(.int (1 : Int32)), (.int (((p1.toUInt32 >>> ((24 : Int32) &&& 31).toUInt32).toInt32) &&& (3 : Int32)))])) t → Steps p.tables e below (s₁.setTop (entryFrame m #[(.int p1)] 5)) t := fun t kt => pre21 t (by
      refine XS.ifYes X0.here hx rfl (pc0 := 36) (pc' := 50) rfl (hb hby d1_36) rfl ((if0 _ _).trans (feq c36_1).2) (by decide) (by decide) ?_
      show Steps p.tables e below (s₁.setTop (mkF m 50 #[.val (.int p1), .val (.int (((p1.toUInt32 >>> ((24 : Int32) &&& 31).toUInt32).toInt32) &&& (3 : Int32))), .val (.int (p1 &&& (255 : Int32)).toUInt32.toUInt16.toUInt32.toInt32), .val (.int (((p1.toUInt32 >>> ((8 : Int32) &&& 31).toUInt32).toInt32) &&& (255 : Int32)).toUInt32.toUInt16.toUInt32.toInt32), .val (.int (((p1.toUInt32 >>> ((16 : Int32) &&& 31).toUInt32).toInt32) &&& (255 : Int32)).toUInt32.toUInt16.toUInt32.toInt32)] [])) _
      refine XS.iloadN X0.here hx rfl (hb hby d1_50) rfl ?_
      show Steps p.tables e below (s₁.setTop (mkF m 51 #[.val (.int p1), .val (.int (((p1.toUInt32 >>> ((24 : Int32) &&& 31).toUInt32).toInt32) &&& (3 : Int32))), .val (.int (p1 &&& (255 : Int32)).toUInt32.toUInt16.toUInt32.toInt32), .val (.int (((p1.toUInt32 >>> ((8 : Int32) &&& 31).toUInt32).toInt32) &&& (255 : Int32)).toUInt32.toUInt16.toUInt32.toInt32), .val (.int (((p1.toUInt32 >>> ((16 : Int32) &&& 31).toUInt32).toInt32) &&& (255 : Int32)).toUInt32.toUInt16.toUInt32.toInt32)] [(.int (((p1.toUInt32 >>> ((24 : Int32) &&& 31).toUInt32).toInt32) &&& (3 : Int32)))])) _
      refine XS.iconst X0.here hx rfl (hb hby d1_51) ?_
      show Steps p.tables e below (s₁.setTop (mkF m 52 #[.val (.int p1), .val (.int (((p1.toUInt32 >>> ((24 : Int32) &&& 31).toUInt32).toInt32) &&& (3 : Int32))), .val (.int (p1 &&& (255 : Int32)).toUInt32.toUInt16.toUInt32.toInt32), .val (.int (((p1.toUInt32 >>> ((8 : Int32) &&& 31).toUInt32).toInt32) &&& (255 : Int32)).toUInt32.toUInt16.toUInt32.toInt32), .val (.int (((p1.toUInt32 >>> ((16 : Int32) &&& 31).toUInt32).toInt32) &&& (255 : Int32)).toUInt32.toUInt16.toUInt32.toInt32)] [(.int (1 : Int32)), (.int (((p1.toUInt32 >>> ((24 : Int32) &&& 31).toUInt32).toInt32) &&& (3 : Int32)))])) _
      exact kt)
    by_cases c52_2 : (((p1.toUInt32 >>> ((24 : Int32) &&& 31).toUInt32).toInt32) &&& (3 : Int32)) = (1 : Int32)
    · have pre63 : ∀ t, Steps p.tables e below (s₁.setTop (mkF m 55 #[.val (.int p1), .val (.int (((p1.toUInt32 >>> ((24 : Int32) &&& 31).toUInt32).toInt32) &&& (3 : Int32))), .val (.int (p1 &&& (255 : Int32)).toUInt32.toUInt16.toUInt32.toInt32), .val (.int (((p1.toUInt32 >>> ((8 : Int32) &&& 31).toUInt32).toInt32) &&& (255 : Int32)).toUInt32.toUInt16.toUInt32.toInt32), .val (.int (((p1.toUInt32 >>> ((16 : Int32) &&& 31).toUInt32).toInt32) &&& (255 : Int32)).toUInt32.toUInt16.toUInt32.toInt32)] [])) t → Steps p.tables e below (s₁.setTop (entryFrame m #[(.int p1)] 5)) t := fun t kt => pre62 t (by
        refine XS.icmpNo X0.here hx rfl (hb hby d1_52) rfl (teq c52_2).2 ?_
        show Steps p.tables e below (s₁.setTop (mkF m 55 #[.val (.int p1), .val (.int (((p1.toUInt32 >>> ((24 : Int32) &&& 31).toUInt32).toInt32) &&& (3 : Int32))), .val (.int (p1 &&& (255 : Int32)).toUInt32.toUInt16.toUInt32.toInt32), .val (.int (((p1.toUInt32 >>> ((8 : Int32) &&& 31).toUInt32).toInt32) &&& (255 : Int32)).toUInt32.toUInt16.toUInt32.toInt32), .val (.int (((p1.toUInt32 >>> ((16 : Int32) &&& 31).toUInt32).toInt32) &&& (255 : Int32)).toUInt32.toUInt16.toUInt32.toInt32)] [])) _
        exact kt)
      obtain ⟨T64, h64, X64, e64, E64, A64, D64, -, st64⟩ := newO X0 hx hZ hown (hw _ (List.mem_of_getElem? (i := 4) rfl)) (hw _ (List.mem_of_getElem? (i := 5) rfl)) (hw _ (List.mem_of_getElem? (i := 6) rfl)) e0 (g := (mkF m 55 #[.val (.int p1), .val (.int (((p1.toUInt32 >>> ((24 : Int32) &&& 31).toUInt32).toInt32) &&& (3 : Int32))), .val (.int (p1 &&& (255 : Int32)).toUInt32.toUInt16.toUInt32.toInt32), .val (.int (((p1.toUInt32 >>> ((8 : Int32) &&& 31).toUInt32).toInt32) &&& (255 : Int32)).toUInt32.toUInt16.toUInt32.toInt32), .val (.int (((p1.toUInt32 >>> ((16 : Int32) &&& 31).toUInt32).toInt32) &&& (255 : Int32)).toUInt32.toUInt16.toUInt32.toInt32)] [])) rfl (hb hby d1_55) (by decide) (by decide)
      obtain ⟨b64, g64⟩ : ∃ z, z = h0.size := ⟨_, rfl⟩
      rw [← g64] at A64 D64 st64
      have gz65 : n0 ≤ b64 := Nat.le_trans Z0 (Nat.le_of_eq g64.symm)
      have f67 := ((Keep.refl h0 [])).ext E64
      have f68 := (O0).ext E64
      have f69 := ((Keep.refl h0 [])).ext E64
      have Zf70 : n0 ≤ h64.size := Nat.le_trans Z0 E64.1
      have F64_value : Fld Z h64 b64 "java/lang/String" "value" "[B" .null := D64 (Or.inr (hw _ (List.mem_of_getElem? (i := 20) rfl))) (ty := (.array .byte)) (by decide)
      have F64_coder : Fld Z h64 b64 "java/lang/String" "coder" "B" (.int (0 : Int32)) := D64 (Or.inr (hw _ (List.mem_of_getElem? (i := 21) rfl))) (ty := .byte) (by decide)
      have pre71 : ∀ t, Steps p.tables e below (T64.setTop (mkF m 58 #[.val (.int p1), .val (.int (((p1.toUInt32 >>> ((24 : Int32) &&& 31).toUInt32).toInt32) &&& (3 : Int32))), .val (.int (p1 &&& (255 : Int32)).toUInt32.toUInt16.toUInt32.toInt32), .val (.int (((p1.toUInt32 >>> ((8 : Int32) &&& 31).toUInt32).toInt32) &&& (255 : Int32)).toUInt32.toUInt16.toUInt32.toInt32), .val (.int (((p1.toUInt32 >>> ((16 : Int32) &&& 31).toUInt32).toInt32) &&& (255 : Int32)).toUInt32.toUInt16.toUInt32.toInt32)] [(.ref b64)])) t → Steps p.tables e below (s₁.setTop (entryFrame m #[(.int p1)] 5)) t := fun t kt => pre63 t (st64 _ kt)
      have pre72 : ∀ t, Steps p.tables e below (T64.setTop (mkF m 60 #[.val (.int p1), .val (.int (((p1.toUInt32 >>> ((24 : Int32) &&& 31).toUInt32).toInt32) &&& (3 : Int32))), .val (.int (p1 &&& (255 : Int32)).toUInt32.toUInt16.toUInt32.toInt32), .val (.int (((p1.toUInt32 >>> ((8 : Int32) &&& 31).toUInt32).toInt32) &&& (255 : Int32)).toUInt32.toUInt16.toUInt32.toInt32), .val (.int (((p1.toUInt32 >>> ((16 : Int32) &&& 31).toUInt32).toInt32) &&& (255 : Int32)).toUInt32.toUInt16.toUInt32.toInt32)] [(.int (1 : Int32)), (.ref b64), (.ref b64)])) t → Steps p.tables e below (s₁.setTop (entryFrame m #[(.int p1)] 5)) t := fun t kt => pre71 t (by
        refine XS.dup X64.here hx rfl (hb hby d1_58) rfl rfl ?_
        show Steps p.tables e below (T64.setTop (mkF m 59 #[.val (.int p1), .val (.int (((p1.toUInt32 >>> ((24 : Int32) &&& 31).toUInt32).toInt32) &&& (3 : Int32))), .val (.int (p1 &&& (255 : Int32)).toUInt32.toUInt16.toUInt32.toInt32), .val (.int (((p1.toUInt32 >>> ((8 : Int32) &&& 31).toUInt32).toInt32) &&& (255 : Int32)).toUInt32.toUInt16.toUInt32.toInt32), .val (.int (((p1.toUInt32 >>> ((16 : Int32) &&& 31).toUInt32).toInt32) &&& (255 : Int32)).toUInt32.toUInt16.toUInt32.toInt32)] [(.ref b64), (.ref b64)])) _
        refine XS.iconst X64.here hx rfl (hb hby d1_59) ?_
        show Steps p.tables e below (T64.setTop (mkF m 60 #[.val (.int p1), .val (.int (((p1.toUInt32 >>> ((24 : Int32) &&& 31).toUInt32).toInt32) &&& (3 : Int32))), .val (.int (p1 &&& (255 : Int32)).toUInt32.toUInt16.toUInt32.toInt32), .val (.int (((p1.toUInt32 >>> ((8 : Int32) &&& 31).toUInt32).toInt32) &&& (255 : Int32)).toUInt32.toUInt16.toUInt32.toInt32), .val (.int (((p1.toUInt32 >>> ((16 : Int32) &&& 31).toUInt32).toInt32) &&& (255 : Int32)).toUInt32.toUInt16.toUInt32.toInt32)] [(.int (1 : Int32)), (.ref b64), (.ref b64)])) _
        exact kt)
      obtain ⟨T73, h73, k73, X73, e73, E73, A73, st73⟩ := newP X64 hx hZ (hw _ (List.mem_of_getElem? (i := 7) rfl)) e64 (g := (mkF m 60 #[.val (.int p1), .val (.int (((p1.toUInt32 >>> ((24 : Int32) &&& 31).toUInt32).toInt32) &&& (3 : Int32))), .val (.int (p1 &&& (255 : Int32)).toUInt32.toUInt16.toUInt32.toInt32), .val (.int (((p1.toUInt32 >>> ((8 : Int32) &&& 31).toUInt32).toInt32) &&& (255 : Int32)).toUInt32.toUInt16.toUInt32.toInt32), .val (.int (((p1.toUInt32 >>> ((16 : Int32) &&& 31).toUInt32).toInt32) &&& (255 : Int32)).toUInt32.toUInt16.toUInt32.toInt32)] [(.int (1 : Int32)), (.ref b64), (.ref b64)])) rfl (hb hby d1_60) rfl (by decide) (cap := 1) (by decide) (by decide) (by decide) (by decide)
      obtain ⟨b73, g73⟩ : ∃ z, z = h64.size := ⟨_, rfl⟩
      rw [← g73] at A73 st73
      have ne74 : b64 ≠ b73 := Nat.ne_of_lt (Nat.lt_of_lt_of_le (A64).lt (Nat.le_of_eq g73.symm))
      have gz75 : n0 ≤ b73 := Nat.le_trans Zf70 (Nat.le_of_eq g73.symm)
      have f77 := (f67).ext E73
      have f78 := (f68).ext E73
      have f79 := (f69).ext E73
      have f80 := (A64).ext E73
      have f81 := (F64_value).ext E73
      have f82 := (F64_coder).ext E73
      have Zf83 : n0 ≤ h73.size := Nat.le_trans Zf70 E73.1
      have V73 : Arv Z h73 b73 k73 .char (1 : Int32) [(.int (0 : Int32))] (.int (0 : Int32)) := (Arv.new A73 (by decide)).pad (pad_rep [] (.int (0 : Int32)) 1)
      have pre84 : ∀ t, Steps p.tables e below (T73.setTop (mkF m 62 #[.val (.int p1), .val (.int (((p1.toUInt32 >>> ((24 : Int32) &&& 31).toUInt32).toInt32) &&& (3 : Int32))), .val (.int (p1 &&& (255 : Int32)).toUInt32.toUInt16.toUInt32.toInt32), .val (.int (((p1.toUInt32 >>> ((8 : Int32) &&& 31).toUInt32).toInt32) &&& (255 : Int32)).toUInt32.toUInt16.toUInt32.toInt32), .val (.int (((p1.toUInt32 >>> ((16 : Int32) &&& 31).toUInt32).toInt32) &&& (255 : Int32)).toUInt32.toUInt16.toUInt32.toInt32)] [(.ref b73), (.ref b64), (.ref b64)])) t → Steps p.tables e below (s₁.setTop (entryFrame m #[(.int p1)] 5)) t := fun t kt => pre72 t (st73 _ kt)
      have pre85 : ∀ t, Steps p.tables e below (T73.setTop (mkF m 65 #[.val (.int p1), .val (.int (((p1.toUInt32 >>> ((24 : Int32) &&& 31).toUInt32).toInt32) &&& (3 : Int32))), .val (.int (p1 &&& (255 : Int32)).toUInt32.toUInt16.toUInt32.toInt32), .val (.int (((p1.toUInt32 >>> ((8 : Int32) &&& 31).toUInt32).toInt32) &&& (255 : Int32)).toUInt32.toUInt16.toUInt32.toInt32), .val (.int (((p1.toUInt32 >>> ((16 : Int32) &&& 31).toUInt32).toInt32) &&& (255 : Int32)).toUInt32.toUInt16.toUInt32.toInt32)] [(.int (p1 &&& (255 : Int32)).toUInt32.toUInt16.toUInt32.toInt32), (.int (0 : Int32)), (.ref b73), (.ref b73), (.ref b64), (.ref b64)])) t → Steps p.tables e below (s₁.setTop (entryFrame m #[(.int p1)] 5)) t := fun t kt => pre84 t (by
        refine XS.dup X73.here hx rfl (hb hby d1_62) rfl rfl ?_
        show Steps p.tables e below (T73.setTop (mkF m 63 #[.val (.int p1), .val (.int (((p1.toUInt32 >>> ((24 : Int32) &&& 31).toUInt32).toInt32) &&& (3 : Int32))), .val (.int (p1 &&& (255 : Int32)).toUInt32.toUInt16.toUInt32.toInt32), .val (.int (((p1.toUInt32 >>> ((8 : Int32) &&& 31).toUInt32).toInt32) &&& (255 : Int32)).toUInt32.toUInt16.toUInt32.toInt32), .val (.int (((p1.toUInt32 >>> ((16 : Int32) &&& 31).toUInt32).toInt32) &&& (255 : Int32)).toUInt32.toUInt16.toUInt32.toInt32)] [(.ref b73), (.ref b73), (.ref b64), (.ref b64)])) _
        refine XS.iconst X73.here hx rfl (hb hby d1_63) ?_
        show Steps p.tables e below (T73.setTop (mkF m 64 #[.val (.int p1), .val (.int (((p1.toUInt32 >>> ((24 : Int32) &&& 31).toUInt32).toInt32) &&& (3 : Int32))), .val (.int (p1 &&& (255 : Int32)).toUInt32.toUInt16.toUInt32.toInt32), .val (.int (((p1.toUInt32 >>> ((8 : Int32) &&& 31).toUInt32).toInt32) &&& (255 : Int32)).toUInt32.toUInt16.toUInt32.toInt32), .val (.int (((p1.toUInt32 >>> ((16 : Int32) &&& 31).toUInt32).toInt32) &&& (255 : Int32)).toUInt32.toUInt16.toUInt32.toInt32)] [(.int (0 : Int32)), (.ref b73), (.ref b73), (.ref b64), (.ref b64)])) _
        refine XS.iloadN X73.here hx rfl (hb hby d1_64) rfl ?_
        show Steps p.tables e below (T73.setTop (mkF m 65 #[.val (.int p1), .val (.int (((p1.toUInt32 >>> ((24 : Int32) &&& 31).toUInt32).toInt32) &&& (3 : Int32))), .val (.int (p1 &&& (255 : Int32)).toUInt32.toUInt16.toUInt32.toInt32), .val (.int (((p1.toUInt32 >>> ((8 : Int32) &&& 31).toUInt32).toInt32) &&& (255 : Int32)).toUInt32.toUInt16.toUInt32.toInt32), .val (.int (((p1.toUInt32 >>> ((16 : Int32) &&& 31).toUInt32).toInt32) &&& (255 : Int32)).toUInt32.toUInt16.toUInt32.toInt32)] [(.int (p1 &&& (255 : Int32)).toUInt32.toUInt16.toUInt32.toInt32), (.int (0 : Int32)), (.ref b73), (.ref b73), (.ref b64), (.ref b64)])) _
        exact kt)
      obtain ⟨cl86, Ar86, q86, S86, M86, H86, G86⟩ := V73
      have hin86 : ¬ ((0 : Int32) < 0 ∨ cl86.slots.size ≤ ((0 : Int32)).toNatClampNeg) := inb_of S86 ⟨by decide, by decide⟩
      obtain ⟨T86, h86, X86, e86, W86, st86⟩ := stC X73 hx hZ e73 Ar86 (j := (0 : Int32)) hin86 (g := (mkF m 65 #[.val (.int p1), .val (.int (((p1.toUInt32 >>> ((24 : Int32) &&& 31).toUInt32).toInt32) &&& (3 : Int32))), .val (.int (p1 &&& (255 : Int32)).toUInt32.toUInt16.toUInt32.toInt32), .val (.int (((p1.toUInt32 >>> ((8 : Int32) &&& 31).toUInt32).toInt32) &&& (255 : Int32)).toUInt32.toUInt16.toUInt32.toInt32), .val (.int (((p1.toUInt32 >>> ((16 : Int32) &&& 31).toUInt32).toInt32) &&& (255 : Int32)).toUInt32.toUInt16.toUInt32.toInt32)] [(.int (p1 &&& (255 : Int32)).toUInt32.toUInt16.toUInt32.toInt32), (.int (0 : Int32)), (.ref b73), (.ref b73), (.ref b64), (.ref b64)])) rfl rfl (hb hby d1_65)
      have f87 := (f77).wr W86 (Or.inr (Nat.le_trans (f67).1 (Nat.le_of_eq g73.symm)))
      have f88 := (f78).wr W86 gz75
      have f89 := (f79).wr W86 ((Or.inr (Nat.le_trans (f69).1 (Nat.le_of_eq g73.symm))))
      have f90 := (f80).wr W86
      have f91 := (f81).other W86 (Or.inl ne74)
      have f92 := (f82).other W86 (Or.inl ne74)
      have Va86 := Arv.set Ar86 q86 S86 M86 H86 G86 (fits_nar_char _) W86 0 rfl (Nat.le_of_ble_eq_true rfl)
      have Vb86 : Arv Z h86 b73 k73 .char (1 : Int32) [(.int (nar .char (p1 &&& (255 : Int32)).toUInt32.toUInt16.toUInt32.toInt32))] (.int (0 : Int32)) := Va86
      have Nf86 := Fr.snoc X86 N0 gz75
      have Zf93 : n0 ≤ h86.size := Nat.le_trans Zf83 (Keep.of_wr W86).1
      obtain ⟨Lg86, Xg86, Ng86⟩ := own_gen (P := fun L => Stand p l e _ _ m _ below meth c T86 L _ _) X86 Nf86
      have pre94 : ∀ t, Steps p.tables e below (T86.setTop (mkF m 66 #[.val (.int p1), .val (.int (((p1.toUInt32 >>> ((24 : Int32) &&& 31).toUInt32).toInt32) &&& (3 : Int32))), .val (.int (p1 &&& (255 : Int32)).toUInt32.toUInt16.toUInt32.toInt32), .val (.int (((p1.toUInt32 >>> ((8 : Int32) &&& 31).toUInt32).toInt32) &&& (255 : Int32)).toUInt32.toUInt16.toUInt32.toInt32), .val (.int (((p1.toUInt32 >>> ((16 : Int32) &&& 31).toUInt32).toInt32) &&& (255 : Int32)).toUInt32.toUInt16.toUInt32.toInt32)] [(.ref b73), (.ref b64), (.ref b64)])) t → Steps p.tables e below (s₁.setTop (entryFrame m #[(.int p1)] 5)) t := fun t kt => pre85 t (st86 _ kt)
      obtain ⟨_, _, ⟨T95, L95, k95, n95⟩, -, X95, ⟨Lc95, hQ95, l95, y95, z95⟩, st95⟩ := Xg86.specialBack hx (y := (⟨"java/lang/String", "<init>", "([C)V"⟩ : MethodName)) rfl hown (mvT hZ (hw _ (List.mem_of_getElem? (i := 8) rfl))) (mvT hZ (hw _ (List.mem_of_getElem? (i := 9) rfl))) (mvT hZ (hw _ (List.mem_of_getElem? (i := 10) rfl))) (by decide) (StrChars.Road.backV (W := 1) hZ hws (kI := 4) (hw _ (List.mem_of_getElem? (i := 5) rfl)) (cs := [(nar .char (p1 &&& (255 : Int32)).toUInt32.toUInt16.toUInt32.toInt32)]) (bs := [((nar .char (p1 &&& (255 : Int32)).toUInt32.toUInt16.toUInt32.toInt32)).toInt8.toInt32]) (n := 1) gz65 Zf93 f90 f91 f92 Vb86 (S0.ext (f88).2) hz rfl rfl (Nat.le_of_ble_eq_true rfl) (Nat.le_of_ble_eq_true rfl) (List.forall_mem_cons.mpr ⟨own_lo8 _, (fun _ q => nomatch q)⟩) rfl (by decide) (by decide)) (g := (mkF m 66 #[.val (.int p1), .val (.int (((p1.toUInt32 >>> ((24 : Int32) &&& 31).toUInt32).toInt32) &&& (3 : Int32))), .val (.int (p1 &&& (255 : Int32)).toUInt32.toUInt16.toUInt32.toInt32), .val (.int (((p1.toUInt32 >>> ((8 : Int32) &&& 31).toUInt32).toInt32) &&& (255 : Int32)).toUInt32.toUInt16.toUInt32.toInt32), .val (.int (((p1.toUInt32 >>> ((16 : Int32) &&& 31).toUInt32).toInt32) &&& (255 : Int32)).toUInt32.toUInt16.toUInt32.toInt32)] [(.ref b73), (.ref b64), (.ref b64)])) rfl (by rw [hml]; rfl) (Steps.refl _) (a := b64) (argsL := [(.ref b73)]) (rest := [(.ref b64)]) (lenOf pd__28_5bC_29V rfl) rfl (by show 2 * 0 + _ ≤ _; exact Nat.le_of_eq rfl) (hb hby d1_66) (fun _ _ => ⟨rfl, e86, (by decide : 2 + 1 ≤ _), (by decide : 5 + 1 ≤ _)⟩)
      dsimp only [Pt.U, Pt.locs, Pt.cells, Pt.slots] at X95 l95 y95 z95 st95 hQ95
      subst l95 y95 z95
      obtain ⟨rfl, N95q, K95, Ex95, Fc95, t95, kt95, gt95, sg95, nt95, Fv95, Va95⟩ := hQ95
      have N95 := Fr.app Ng86 N95q
      have ne96 : b64 ≠ t95 := Nat.ne_of_lt (Nat.lt_of_lt_of_le (f90).lt sg95)
      have ne97 : b73 ≠ t95 := Nat.ne_of_lt (Nat.lt_of_lt_of_le (Vb86).lt sg95)
      have sz98 := Nat.le_trans (f89).1 sg95
      have sy99 := Nat.le_trans (f87).1 sg95
      have f100 := (f87).trans K95 (own_all1 (Or.inr (Nat.le_trans ((Keep.refl h0 [])).1 (Nat.le_of_eq g64.symm))))
      have f101 := (f88).keep K95 (own_all1 gz65)
      have f102 := (f89).trans K95 (own_all1 ((Or.inr (Nat.le_trans ((Keep.refl h0 [])).1 (Nat.le_of_eq g64.symm)))))
      have f103 := (f90).keep K95
      have f104 := (Vb86).keep K95 (own_notin1 (Ne.symm ne74))
      have Zf105 : n0 ≤ T95.heap.size := Nat.le_trans Zf93 (K95).1
      have Vw95 : Arv Z T95.heap t95 kt95 .byte (1 : Int32) [(.int ((nar .char (p1 &&& (255 : Int32)).toUInt32.toUInt16.toUInt32.toInt32)).toInt8.toInt32)] (.int (0 : Int32)) := Va95
      have pre106 : ∀ t, Steps p.tables e below (T95.setTop (mkF m 69 #[.val (.int p1), .val (.int (((p1.toUInt32 >>> ((24 : Int32) &&& 31).toUInt32).toInt32) &&& (3 : Int32))), .val (.int (p1 &&& (255 : Int32)).toUInt32.toUInt16.toUInt32.toInt32), .val (.int (((p1.toUInt32 >>> ((8 : Int32) &&& 31).toUInt32).toInt32) &&& (255 : Int32)).toUInt32.toUInt16.toUInt32.toInt32), .val (.int (((p1.toUInt32 >>> ((16 : Int32) &&& 31).toUInt32).toInt32) &&& (255 : Int32)).toUInt32.toUInt16.toUInt32.toInt32)] [(.ref b64)])) t → Steps p.tables e below (s₁.setTop (entryFrame m #[(.int p1)] 5)) t := fun t kt => pre94 t (st95.trans kt)
      have sf108 : ∀ y ∈ ([] : List Addr), Safe Z own_EL s.vm h0 y := sf0
      have ch108 : CHr Z own_EL s.vm h0 s.vm T95.heap := CHr.trans (CHr.refl hI) (CHr.keep f100 sf108 ((CHr.refl hI)).1)
      have sa109 : Safe Z own_EL s.vm T95.heap b64 := own_safe f100 sf108 ((CHr.refl hI)).1 ((Nat.le_trans ((Keep.refl h0 [])).1 (Nat.le_of_eq g64.symm)))
      have sa110 : Safe Z own_EL s.vm T95.heap b73 := own_safe f100 sf108 ((CHr.refl hI)).1 ((Nat.le_trans (f67).1 (Nat.le_of_eq g73.symm)))
      have sa111 : Safe Z own_EL s.vm T95.heap t95 := own_safe f100 sf108 ((CHr.refl hI)).1 (sy99)
      have hCf : CHr Z own_EL s.vm s.heap T95.vm T95.heap := by
        rw [hh]
        exact CHr.trans ch108 (CHv.at (s := s) (vm0 := s.vm) X95 hZ (own_EW hw) (ch108).1)
      obtain ⟨fs, hr, hrun, hended, hW, hsame⟩ := X95.leave (v := (some (.ref b64))) (fun h => by rw [Bd.returns] at h; cases h)
      refine ⟨_, _, pre106 _ ?_, hrun, hended, _, _, rfl, ?_, hCf, ReturnedEndW.of_narrow ⟨_, rfl⟩ hW (hsame.mono (by decide) (by decide))⟩
      · exact retOut X95 hx Bd.returns rfl (Or.inr (Or.inr (Or.inr (Or.inr ⟨rfl, rfl, rfl⟩)))) (hb hby d1_69) hr
      · show QMk Z  h0 n0 _ T95.heap _
        exact ⟨_, _, _, [(nar .char (p1 &&& (255 : Int32)).toUInt32.toUInt16.toUInt32.toInt32)], rfl, N95, f102, Nat.le_of_ble_eq_true rfl, (List.forall_mem_cons.mpr ⟨own_lo8 _, (fun _ q => nomatch q)⟩), Ex95, Fv95, Fc95, Vw95⟩
    · have pre112 : ∀ t, Steps p.tables e below (s₁.setTop (mkF m 72 #[.val (.int p1), .val (.int (((p1.toUInt32 >>> ((24 : Int32) &&& 31).toUInt32).toInt32) &&& (3 : Int32))), .val (.int (p1 &&& (255 : Int32)).toUInt32.toUInt16.toUInt32.toInt32), .val (.int (((p1.toUInt32 >>> ((8 : Int32) &&& 31).toUInt32).toInt32) &&& (255 : Int32)).toUInt32.toUInt16.toUInt32.toInt32), .val (.int (((p1.toUInt32 >>> ((16 : Int32) &&& 31).toUInt32).toInt32) &&& (255 : Int32)).toUInt32.toUInt16.toUInt32.toInt32)] [(.int (2 : Int32)), (.int (((p1.toUInt32 >>> ((24 : Int32) &&& 31).toUInt32).toInt32) &&& (3 : Int32)))])) t → Steps p.tables e below (s₁.setTop (entryFrame m #[(.int p1)] 5)) t := fun t kt => pre62 t (by
        refine XS.icmpYes X0.here hx rfl (pc0 := 52) (pc' := 70) rfl (hb hby d1_52) rfl (feq c52_2).2 (by decide) (by decide) ?_
        show Steps p.tables e below (s₁.setTop (mkF m 70 #[.val (.int p1), .val (.int (((p1.toUInt32 >>> ((24 : Int32) &&& 31).toUInt32).toInt32) &&& (3 : Int32))), .val (.int (p1 &&& (255 : Int32)).toUInt32.toUInt16.toUInt32.toInt32), .val (.int (((p1.toUInt32 >>> ((8 : Int32) &&& 31).toUInt32).toInt32) &&& (255 : Int32)).toUInt32.toUInt16.toUInt32.toInt32), .val (.int (((p1.toUInt32 >>> ((16 : Int32) &&& 31).toUInt32).toInt32) &&& (255 : Int32)).toUInt32.toUInt16.toUInt32.toInt32)] [])) _
        refine XS.iloadN X0.here hx rfl (hb hby d1_70) rfl ?_
        show Steps p.tables e below (s₁.setTop (mkF m 71 #[.val (.int p1), .val (.int (((p1.toUInt32 >>> ((24 : Int32) &&& 31).toUInt32).toInt32) &&& (3 : Int32))), .val (.int (p1 &&& (255 : Int32)).toUInt32.toUInt16.toUInt32.toInt32), .val (.int (((p1.toUInt32 >>> ((8 : Int32) &&& 31).toUInt32).toInt32) &&& (255 : Int32)).toUInt32.toUInt16.toUInt32.toInt32), .val (.int (((p1.toUInt32 >>> ((16 : Int32) &&& 31).toUInt32).toInt32) &&& (255 : Int32)).toUInt32.toUInt16.toUInt32.toInt32)] [(.int (((p1.toUInt32 >>> ((24 : Int32) &&& 31).toUInt32).toInt32) &&& (3 : Int32)))])) _
        refine XS.iconst X0.here hx rfl (hb hby d1_71) ?_
        show Steps p.tables e below (s₁.setTop (mkF m 72 #[.val (.int p1), .val (.int (((p1.toUInt32 >>> ((24 : Int32) &&& 31).toUInt32).toInt32) &&& (3 : Int32))), .val (.int (p1 &&& (255 : Int32)).toUInt32.toUInt16.toUInt32.toInt32), .val (.int (((p1.toUInt32 >>> ((8 : Int32) &&& 31).toUInt32).toInt32) &&& (255 : Int32)).toUInt32.toUInt16.toUInt32.toInt32), .val (.int (((p1.toUInt32 >>> ((16 : Int32) &&& 31).toUInt32).toInt32) &&& (255 : Int32)).toUInt32.toUInt16.toUInt32.toInt32)] [(.int (2 : Int32)), (.int (((p1.toUInt32 >>> ((24 : Int32) &&& 31).toUInt32).toInt32) &&& (3 : Int32)))])) _
        exact kt)
      by_cases c72_3 : (((p1.toUInt32 >>> ((24 : Int32) &&& 31).toUInt32).toInt32) &&& (3 : Int32)) = (2 : Int32)
      · have pre113 : ∀ t, Steps p.tables e below (s₁.setTop (mkF m 75 #[.val (.int p1), .val (.int (((p1.toUInt32 >>> ((24 : Int32) &&& 31).toUInt32).toInt32) &&& (3 : Int32))), .val (.int (p1 &&& (255 : Int32)).toUInt32.toUInt16.toUInt32.toInt32), .val (.int (((p1.toUInt32 >>> ((8 : Int32) &&& 31).toUInt32).toInt32) &&& (255 : Int32)).toUInt32.toUInt16.toUInt32.toInt32), .val (.int (((p1.toUInt32 >>> ((16 : Int32) &&& 31).toUInt32).toInt32) &&& (255 : Int32)).toUInt32.toUInt16.toUInt32.toInt32)] [])) t → Steps p.tables e below (s₁.setTop (entryFrame m #[(.int p1)] 5)) t := fun t kt => pre112 t (by
          refine XS.icmpNo X0.here hx rfl (hb hby d1_72) rfl (teq c72_3).2 ?_
          show Steps p.tables e below (s₁.setTop (mkF m 75 #[.val (.int p1), .val (.int (((p1.toUInt32 >>> ((24 : Int32) &&& 31).toUInt32).toInt32) &&& (3 : Int32))), .val (.int (p1 &&& (255 : Int32)).toUInt32.toUInt16.toUInt32.toInt32), .val (.int (((p1.toUInt32 >>> ((8 : Int32) &&& 31).toUInt32).toInt32) &&& (255 : Int32)).toUInt32.toUInt16.toUInt32.toInt32), .val (.int (((p1.toUInt32 >>> ((16 : Int32) &&& 31).toUInt32).toInt32) &&& (255 : Int32)).toUInt32.toUInt16.toUInt32.toInt32)] [])) _
          exact kt)
        obtain ⟨T114, h114, X114, e114, E114, A114, D114, -, st114⟩ := newO X0 hx hZ hown (hw _ (List.mem_of_getElem? (i := 4) rfl)) (hw _ (List.mem_of_getElem? (i := 5) rfl)) (hw _ (List.mem_of_getElem? (i := 6) rfl)) e0 (g := (mkF m 75 #[.val (.int p1), .val (.int (((p1.toUInt32 >>> ((24 : Int32) &&& 31).toUInt32).toInt32) &&& (3 : Int32))), .val (.int (p1 &&& (255 : Int32)).toUInt32.toUInt16.toUInt32.toInt32), .val (.int (((p1.toUInt32 >>> ((8 : Int32) &&& 31).toUInt32).toInt32) &&& (255 : Int32)).toUInt32.toUInt16.toUInt32.toInt32), .val (.int (((p1.toUInt32 >>> ((16 : Int32) &&& 31).toUInt32).toInt32) &&& (255 : Int32)).toUInt32.toUInt16.toUInt32.toInt32)] [])) rfl (hb hby d1_75) (by decide) (by decide)
        obtain ⟨b114, g114⟩ : ∃ z, z = h0.size := ⟨_, rfl⟩
        rw [← g114] at A114 D114 st114
        have gz115 : n0 ≤ b114 := Nat.le_trans Z0 (Nat.le_of_eq g114.symm)
        have f117 := ((Keep.refl h0 [])).ext E114
        have f118 := (O0).ext E114
        have f119 := ((Keep.refl h0 [])).ext E114
        have Zf120 : n0 ≤ h114.size := Nat.le_trans Z0 E114.1
        have F114_value : Fld Z h114 b114 "java/lang/String" "value" "[B" .null := D114 (Or.inr (hw _ (List.mem_of_getElem? (i := 20) rfl))) (ty := (.array .byte)) (by decide)
        have F114_coder : Fld Z h114 b114 "java/lang/String" "coder" "B" (.int (0 : Int32)) := D114 (Or.inr (hw _ (List.mem_of_getElem? (i := 21) rfl))) (ty := .byte) (by decide)
        have pre121 : ∀ t, Steps p.tables e below (T114.setTop (mkF m 78 #[.val (.int p1), .val (.int (((p1.toUInt32 >>> ((24 : Int32) &&& 31).toUInt32).toInt32) &&& (3 : Int32))), .val (.int (p1 &&& (255 : Int32)).toUInt32.toUInt16.toUInt32.toInt32), .val (.int (((p1.toUInt32 >>> ((8 : Int32) &&& 31).toUInt32).toInt32) &&& (255 : Int32)).toUInt32.toUInt16.toUInt32.toInt32), .val (.int (((p1.toUInt32 >>> ((16 : Int32) &&& 31).toUInt32).toInt32) &&& (255 : Int32)).toUInt32.toUInt16.toUInt32.toInt32)] [(.ref b114)])) t → Steps p.tables e below (s₁.setTop (entryFrame m #[(.int p1)] 5)) t := fun t kt => pre113 t (st114 _ kt)
        have pre122 : ∀ t, Steps p.tables e below (T114.setTop (mkF m 80 #[.val (.int p1), .val (.int (((p1.toUInt32 >>> ((24 : Int32) &&& 31).toUInt32).toInt32) &&& (3 : Int32))), .val (.int (p1 &&& (255 : Int32)).toUInt32.toUInt16.toUInt32.toInt32), .val (.int (((p1.toUInt32 >>> ((8 : Int32) &&& 31).toUInt32).toInt32) &&& (255 : Int32)).toUInt32.toUInt16.toUInt32.toInt32), .val (.int (((p1.toUInt32 >>> ((16 : Int32) &&& 31).toUInt32).toInt32) &&& (255 : Int32)).toUInt32.toUInt16.toUInt32.toInt32)] [(.int (2 : Int32)), (.ref b114), (.ref b114)])) t → Steps p.tables e below (s₁.setTop (entryFrame m #[(.int p1)] 5)) t := fun t kt => pre121 t (by
          refine XS.dup X114.here hx rfl (hb hby d1_78) rfl rfl ?_
          show Steps p.tables e below (T114.setTop (mkF m 79 #[.val (.int p1), .val (.int (((p1.toUInt32 >>> ((24 : Int32) &&& 31).toUInt32).toInt32) &&& (3 : Int32))), .val (.int (p1 &&& (255 : Int32)).toUInt32.toUInt16.toUInt32.toInt32), .val (.int (((p1.toUInt32 >>> ((8 : Int32) &&& 31).toUInt32).toInt32) &&& (255 : Int32)).toUInt32.toUInt16.toUInt32.toInt32), .val (.int (((p1.toUInt32 >>> ((16 : Int32) &&& 31).toUInt32).toInt32) &&& (255 : Int32)).toUInt32.toUInt16.toUInt32.toInt32)] [(.ref b114), (.ref b114)])) _
          refine XS.iconst X114.here hx rfl (hb hby d1_79) ?_
          show Steps p.tables e below (T114.setTop (mkF m 80 #[.val (.int p1), .val (.int (((p1.toUInt32 >>> ((24 : Int32) &&& 31).toUInt32).toInt32) &&& (3 : Int32))), .val (.int (p1 &&& (255 : Int32)).toUInt32.toUInt16.toUInt32.toInt32), .val (.int (((p1.toUInt32 >>> ((8 : Int32) &&& 31).toUInt32).toInt32) &&& (255 : Int32)).toUInt32.toUInt16.toUInt32.toInt32), .val (.int (((p1.toUInt32 >>> ((16 : Int32) &&& 31).toUInt32).toInt32) &&& (255 : Int32)).toUInt32.toUInt16.toUInt32.toInt32)] [(.int (2 : Int32)), (.ref b114), (.ref b114)])) _
          exact kt)
        obtain ⟨T123, h123, k123, X123, e123, E123, A123, st123⟩ := newP X114 hx hZ (hw _ (List.mem_of_getElem? (i := 7) rfl)) e114 (g := (mkF m 80 #[.val (.int p1), .val (.int (((p1.toUInt32 >>> ((24 : Int32) &&& 31).toUInt32).toInt32) &&& (3 : Int32))), .val (.int (p1 &&& (255 : Int32)).toUInt32.toUInt16.toUInt32.toInt32), .val (.int (((p1.toUInt32 >>> ((8 : Int32) &&& 31).toUInt32).toInt32) &&& (255 : Int32)).toUInt32.toUInt16.toUInt32.toInt32), .val (.int (((p1.toUInt32 >>> ((16 : Int32) &&& 31).toUInt32).toInt32) &&& (255 : Int32)).toUInt32.toUInt16.toUInt32.toInt32)] [(.int (2 : Int32)), (.ref b114), (.ref b114)])) rfl (hb hby d1_80) rfl (by decide) (cap := 2) (by decide) (by decide) (by decide) (by decide)
        obtain ⟨b123, g123⟩ : ∃ z, z = h114.size := ⟨_, rfl⟩
        rw [← g123] at A123 st123
        have ne124 : b114 ≠ b123 := Nat.ne_of_lt (Nat.lt_of_lt_of_le (A114).lt (Nat.le_of_eq g123.symm))
        have gz125 : n0 ≤ b123 := Nat.le_trans Zf120 (Nat.le_of_eq g123.symm)
        have f127 := (f117).ext E123
        have f128 := (f118).ext E123
        have f129 := (f119).ext E123
        have f130 := (A114).ext E123
        have f131 := (F114_value).ext E123
        have f132 := (F114_coder).ext E123
        have Zf133 : n0 ≤ h123.size := Nat.le_trans Zf120 E123.1
        have V123 : Arv Z h123 b123 k123 .char (2 : Int32) [(.int (0 : Int32)), (.int (0 : Int32))] (.int (0 : Int32)) := (Arv.new A123 (by decide)).pad (pad_rep [] (.int (0 : Int32)) 2)
        have pre134 : ∀ t, Steps p.tables e below (T123.setTop (mkF m 82 #[.val (.int p1), .val (.int (((p1.toUInt32 >>> ((24 : Int32) &&& 31).toUInt32).toInt32) &&& (3 : Int32))), .val (.int (p1 &&& (255 : Int32)).toUInt32.toUInt16.toUInt32.toInt32), .val (.int (((p1.toUInt32 >>> ((8 : Int32) &&& 31).toUInt32).toInt32) &&& (255 : Int32)).toUInt32.toUInt16.toUInt32.toInt32), .val (.int (((p1.toUInt32 >>> ((16 : Int32) &&& 31).toUInt32).toInt32) &&& (255 : Int32)).toUInt32.toUInt16.toUInt32.toInt32)] [(.ref b123), (.ref b114), (.ref b114)])) t → Steps p.tables e below (s₁.setTop (entryFrame m #[(.int p1)] 5)) t := fun t kt => pre122 t (st123 _ kt)
        have pre135 : ∀ t, Steps p.tables e below (T123.setTop (mkF m 85 #[.val (.int p1), .val (.int (((p1.toUInt32 >>> ((24 : Int32) &&& 31).toUInt32).toInt32) &&& (3 : Int32))), .val (.int (p1 &&& (255 : Int32)).toUInt32.toUInt16.toUInt32.toInt32), .val (.int (((p1.toUInt32 >>> ((8 : Int32) &&& 31).toUInt32).toInt32) &&& (255 : Int32)).toUInt32.toUInt16.toUInt32.toInt32), .val (.int (((p1.toUInt32 >>> ((16 : Int32) &&& 31).toUInt32).toInt32) &&& (255 : Int32)).toUInt32.toUInt16.toUInt32.toInt32)] [(.int (p1 &&& (255 : Int32)).toUInt32.toUInt16.toUInt32.toInt32), (.int (0 : Int32)), (.ref b123), (.ref b123), (.ref b114), (.ref b114)])) t → Steps p.tables e below (s₁.setTop (entryFrame m #[(.int p1)] 5)) t := fun t kt => pre134 t (by
          refine XS.dup X123.here hx rfl (hb hby d1_82) rfl rfl ?_
          show Steps p.tables e below (T123.setTop (mkF m 83 #[.val (.int p1), .val (.int (((p1.toUInt32 >>> ((24 : Int32) &&& 31).toUInt32).toInt32) &&& (3 : Int32))), .val (.int (p1 &&& (255 : Int32)).toUInt32.toUInt16.toUInt32.toInt32), .val (.int (((p1.toUInt32 >>> ((8 : Int32) &&& 31).toUInt32).toInt32) &&& (255 : Int32)).toUInt32.toUInt16.toUInt32.toInt32), .val (.int (((p1.toUInt32 >>> ((16 : Int32) &&& 31).toUInt32).toInt32) &&& (255 : Int32)).toUInt32.toUInt16.toUInt32.toInt32)] [(.ref b123), (.ref b123), (.ref b114), (.ref b114)])) _
          refine XS.iconst X123.here hx rfl (hb hby d1_83) ?_
          show Steps p.tables e below (T123.setTop (mkF m 84 #[.val (.int p1), .val (.int (((p1.toUInt32 >>> ((24 : Int32) &&& 31).toUInt32).toInt32) &&& (3 : Int32))), .val (.int (p1 &&& (255 : Int32)).toUInt32.toUInt16.toUInt32.toInt32), .val (.int (((p1.toUInt32 >>> ((8 : Int32) &&& 31).toUInt32).toInt32) &&& (255 : Int32)).toUInt32.toUInt16.toUInt32.toInt32), .val (.int (((p1.toUInt32 >>> ((16 : Int32) &&& 31).toUInt32).toInt32) &&& (255 : Int32)).toUInt32.toUInt16.toUInt32.toInt32)] [(.int (0 : Int32)), (.ref b123), (.ref b123), (.ref b114), (.ref b114)])) _
          refine XS.iloadN X123.here hx rfl (hb hby d1_84) rfl ?_
          show Steps p.tables e below (T123.setTop (mkF m 85 #[.val (.int p1), .val (.int (((p1.toUInt32 >>> ((24 : Int32) &&& 31).toUInt32).toInt32) &&& (3 : Int32))), .val (.int (p1 &&& (255 : Int32)).toUInt32.toUInt16.toUInt32.toInt32), .val (.int (((p1.toUInt32 >>> ((8 : Int32) &&& 31).toUInt32).toInt32) &&& (255 : Int32)).toUInt32.toUInt16.toUInt32.toInt32), .val (.int (((p1.toUInt32 >>> ((16 : Int32) &&& 31).toUInt32).toInt32) &&& (255 : Int32)).toUInt32.toUInt16.toUInt32.toInt32)] [(.int (p1 &&& (255 : Int32)).toUInt32.toUInt16.toUInt32.toInt32), (.int (0 : Int32)), (.ref b123), (.ref b123), (.ref b114), (.ref b114)])) _
          exact kt)
        obtain ⟨cl136, Ar136, q136, S136, M136, H136, G136⟩ := V123
        have hin136 : ¬ ((0 : Int32) < 0 ∨ cl136.slots.size ≤ ((0 : Int32)).toNatClampNeg) := inb_of S136 ⟨by decide, by decide⟩
        obtain ⟨T136, h136, X136, e136, W136, st136⟩ := stC X123 hx hZ e123 Ar136 (j := (0 : Int32)) hin136 (g := (mkF m 85 #[.val (.int p1), .val (.int (((p1.toUInt32 >>> ((24 : Int32) &&& 31).toUInt32).toInt32) &&& (3 : Int32))), .val (.int (p1 &&& (255 : Int32)).toUInt32.toUInt16.toUInt32.toInt32), .val (.int (((p1.toUInt32 >>> ((8 : Int32) &&& 31).toUInt32).toInt32) &&& (255 : Int32)).toUInt32.toUInt16.toUInt32.toInt32), .val (.int (((p1.toUInt32 >>> ((16 : Int32) &&& 31).toUInt32).toInt32) &&& (255 : Int32)).toUInt32.toUInt16.toUInt32.toInt32)] [(.int (p1 &&& (255 : Int32)).toUInt32.toUInt16.toUInt32.toInt32), (.int (0 : Int32)), (.ref b123), (.ref b123), (.ref b114), (.ref b114)])) rfl rfl (hb hby d1_85)
        have f137 := (f127).wr W136 (Or.inr (Nat.le_trans (f117).1 (Nat.le_of_eq g123.symm)))
        have f138 := (f128).wr W136 gz125
        have f139 := (f129).wr W136 ((Or.inr (Nat.le_trans (f119).1 (Nat.le_of_eq g123.symm))))
        have f140 := (f130).wr W136
        have f141 := (f131).other W136 (Or.inl ne124)
        have f142 := (f132).other W136 (Or.inl ne124)
        have Va136 := Arv.set Ar136 q136 S136 M136 H136 G136 (fits_nar_char _) W136 0 rfl (Nat.le_of_ble_eq_true rfl)
        have Vb136 : Arv Z h136 b123 k123 .char (2 : Int32) [(.int (nar .char (p1 &&& (255 : Int32)).toUInt32.toUInt16.toUInt32.toInt32)), (.int (0 : Int32))] (.int (0 : Int32)) := Va136
        have Nf136 := Fr.snoc X136 N0 gz125
        have Zf143 : n0 ≤ h136.size := Nat.le_trans Zf133 (Keep.of_wr W136).1
        obtain ⟨Lg136, Xg136, Ng136⟩ := own_gen (P := fun L => Stand p l e _ _ m _ below meth c T136 L _ _) X136 Nf136
        have pre144 : ∀ t, Steps p.tables e below (T136.setTop (mkF m 86 #[.val (.int p1), .val (.int (((p1.toUInt32 >>> ((24 : Int32) &&& 31).toUInt32).toInt32) &&& (3 : Int32))), .val (.int (p1 &&& (255 : Int32)).toUInt32.toUInt16.toUInt32.toInt32), .val (.int (((p1.toUInt32 >>> ((8 : Int32) &&& 31).toUInt32).toInt32) &&& (255 : Int32)).toUInt32.toUInt16.toUInt32.toInt32), .val (.int (((p1.toUInt32 >>> ((16 : Int32) &&& 31).toUInt32).toInt32) &&& (255 : Int32)).toUInt32.toUInt16.toUInt32.toInt32)] [(.ref b123), (.ref b114), (.ref b114)])) t → Steps p.tables e below (s₁.setTop (entryFrame m #[(.int p1)] 5)) t := fun t kt => pre135 t (st136 _ kt)
        have pre145 : ∀ t, Steps p.tables e below (T136.setTop (mkF m 89 #[.val (.int p1), .val (.int (((p1.toUInt32 >>> ((24 : Int32) &&& 31).toUInt32).toInt32) &&& (3 : Int32))), .val (.int (p1 &&& (255 : Int32)).toUInt32.toUInt16.toUInt32.toInt32), .val (.int (((p1.toUInt32 >>> ((8 : Int32) &&& 31).toUInt32).toInt32) &&& (255 : Int32)).toUInt32.toUInt16.toUInt32.toInt32), .val (.int (((p1.toUInt32 >>> ((16 : Int32) &&& 31).toUInt32).toInt32) &&& (255 : Int32)).toUInt32.toUInt16.toUInt32.toInt32)] [(.int (((p1.toUInt32 >>> ((8 : Int32) &&& 31).toUInt32).toInt32) &&& (255 : Int32)).toUInt32.toUInt16.toUInt32.toInt32), (.int (1 : Int32)), (.ref b123), (.ref b123), (.ref b114), (.ref b114)])) t → Steps p.tables e below (s₁.setTop (entryFrame m #[(.int p1)] 5)) t := fun t kt => pre144 t (by
          refine XS.dup Xg136.here hx rfl (hb hby d1_86) rfl rfl ?_
          show Steps p.tables e below (T136.setTop (mkF m 87 #[.val (.int p1), .val (.int (((p1.toUInt32 >>> ((24 : Int32) &&& 31).toUInt32).toInt32) &&& (3 : Int32))), .val (.int (p1 &&& (255 : Int32)).toUInt32.toUInt16.toUInt32.toInt32), .val (.int (((p1.toUInt32 >>> ((8 : Int32) &&& 31).toUInt32).toInt32) &&& (255 : Int32)).toUInt32.toUInt16.toUInt32.toInt32), .val (.int (((p1.toUInt32 >>> ((16 : Int32) &&& 31).toUInt32).toInt32) &&& (255 : Int32)).toUInt32.toUInt16.toUInt32.toInt32)] [(.ref b123), (.ref b123), (.ref b114), (.ref b114)])) _
          refine XS.iconst Xg136.here hx rfl (hb hby d1_87) ?_
          show Steps p.tables e below (T136.setTop (mkF m 88 #[.val (.int p1), .val (.int (((p1.toUInt32 >>> ((24 : Int32) &&& 31).toUInt32).toInt32) &&& (3 : Int32))), .val (.int (p1 &&& (255 : Int32)).toUInt32.toUInt16.toUInt32.toInt32), .val (.int (((p1.toUInt32 >>> ((8 : Int32) &&& 31).toUInt32).toInt32) &&& (255 : Int32)).toUInt32.toUInt16.toUInt32.toInt32), .val (.int (((p1.toUInt32 >>> ((16 : Int32) &&& 31).toUInt32).toInt32) &&& (255 : Int32)).toUInt32.toUInt16.toUInt32.toInt32)] [(.int (1 : Int32)), (.ref b123), (.ref b123), (.ref b114), (.ref b114)])) _
          refine XS.iloadN Xg136.here hx rfl (hb hby d1_88) rfl ?_
          show Steps p.tables e below (T136.setTop (mkF m 89 #[.val (.int p1), .val (.int (((p1.toUInt32 >>> ((24 : Int32) &&& 31).toUInt32).toInt32) &&& (3 : Int32))), .val (.int (p1 &&& (255 : Int32)).toUInt32.toUInt16.toUInt32.toInt32), .val (.int (((p1.toUInt32 >>> ((8 : Int32) &&& 31).toUInt32).toInt32) &&& (255 : Int32)).toUInt32.toUInt16.toUInt32.toInt32), .val (.int (((p1.toUInt32 >>> ((16 : Int32) &&& 31).toUInt32).toInt32) &&& (255 : Int32)).toUInt32.toUInt16.toUInt32.toInt32)] [(.int (((p1.toUInt32 >>> ((8 : Int32) &&& 31).toUInt32).toInt32) &&& (255 : Int32)).toUInt32.toUInt16.toUInt32.toInt32), (.int (1 : Int32)), (.ref b123), (.ref b123), (.ref b114), (.ref b114)])) _
          exact kt)
        obtain ⟨cl146, Ar146, q146, S146, M146, H146, G146⟩ := Vb136
        have hin146 : ¬ ((1 : Int32) < 0 ∨ cl146.slots.size ≤ ((1 : Int32)).toNatClampNeg) := inb_of S146 ⟨by decide, by decide⟩
        obtain ⟨T146, h146, X146, e146, W146, st146⟩ := stC Xg136 hx hZ e136 Ar146 (j := (1 : Int32)) hin146 (g := (mkF m 89 #[.val (.int p1), .val (.int (((p1.toUInt32 >>> ((24 : Int32) &&& 31).toUInt32).toInt32) &&& (3 : Int32))), .val (.int (p1 &&& (255 : Int32)).toUInt32.toUInt16.toUInt32.toInt32), .val (.int (((p1.toUInt32 >>> ((8 : Int32) &&& 31).toUInt32).toInt32) &&& (255 : Int32)).toUInt32.toUInt16.toUInt32.toInt32), .val (.int (((p1.toUInt32 >>> ((16 : Int32) &&& 31).toUInt32).toInt32) &&& (255 : Int32)).toUInt32.toUInt16.toUInt32.toInt32)] [(.int (((p1.toUInt32 >>> ((8 : Int32) &&& 31).toUInt32).toInt32) &&& (255 : Int32)).toUInt32.toUInt16.toUInt32.toInt32), (.int (1 : Int32)), (.ref b123), (.ref b123), (.ref b114), (.ref b114)])) rfl rfl (hb hby d1_89)
        have f147 := (f137).wr W146 (Or.inr (Nat.le_trans (f117).1 (Nat.le_of_eq g123.symm)))
        have f148 := (f138).wr W146 gz125
        have f149 := (f139).wr W146 ((Or.inr (Nat.le_trans (f119).1 (Nat.le_of_eq g123.symm))))
        have f150 := (f140).wr W146
        have f151 := (f141).other W146 (Or.inl ne124)
        have f152 := (f142).other W146 (Or.inl ne124)
        have Va146 := Arv.set Ar146 q146 S146 M146 H146 G146 (fits_nar_char _) W146 1 rfl (Nat.le_of_ble_eq_true rfl)
        have Vb146 : Arv Z h146 b123 k123 .char (2 : Int32) [(.int (nar .char (p1 &&& (255 : Int32)).toUInt32.toUInt16.toUInt32.toInt32)), (.int (nar .char (((p1.toUInt32 >>> ((8 : Int32) &&& 31).toUInt32).toInt32) &&& (255 : Int32)).toUInt32.toUInt16.toUInt32.toInt32))] (.int (0 : Int32)) := Va146
        have Nf146 := Fr.snoc X146 Ng136 gz125
        have Zf153 : n0 ≤ h146.size := Nat.le_trans Zf143 (Keep.of_wr W146).1
        obtain ⟨Lg146, Xg146, Ng146⟩ := own_gen (P := fun L => Stand p l e _ _ m _ below meth c T146 L _ _) X146 Nf146
        have pre154 : ∀ t, Steps p.tables e below (T146.setTop (mkF m 90 #[.val (.int p1), .val (.int (((p1.toUInt32 >>> ((24 : Int32) &&& 31).toUInt32).toInt32) &&& (3 : Int32))), .val (.int (p1 &&& (255 : Int32)).toUInt32.toUInt16.toUInt32.toInt32), .val (.int (((p1.toUInt32 >>> ((8 : Int32) &&& 31).toUInt32).toInt32) &&& (255 : Int32)).toUInt32.toUInt16.toUInt32.toInt32), .val (.int (((p1.toUInt32 >>> ((16 : Int32) &&& 31).toUInt32).toInt32) &&& (255 : Int32)).toUInt32.toUInt16.toUInt32.toInt32)] [(.ref b123), (.ref b114), (.ref b114)])) t → Steps p.tables e below (s₁.setTop (entryFrame m #[(.int p1)] 5)) t := fun t kt => pre145 t (st146 _ kt)
        obtain ⟨_, _, ⟨T155, L155, k155, n155⟩, -, X155, ⟨Lc155, hQ155, l155, y155, z155⟩, st155⟩ := Xg146.specialBack hx (y := (⟨"java/lang/String", "<init>", "([C)V"⟩ : MethodName)) rfl hown (mvT hZ (hw _ (List.mem_of_getElem? (i := 8) rfl))) (mvT hZ (hw _ (List.mem_of_getElem? (i := 9) rfl))) (mvT hZ (hw _ (List.mem_of_getElem? (i := 10) rfl))) (by decide) (StrChars.Road.backV (W := 1) hZ hws (kI := 4) (hw _ (List.mem_of_getElem? (i := 5) rfl)) (cs := [(nar .char (p1 &&& (255 : Int32)).toUInt32.toUInt16.toUInt32.toInt32), (nar .char (((p1.toUInt32 >>> ((8 : Int32) &&& 31).toUInt32).toInt32) &&& (255 : Int32)).toUInt32.toUInt16.toUInt32.toInt32)]) (bs := [((nar .char (p1 &&& (255 : Int32)).toUInt32.toUInt16.toUInt32.toInt32)).toInt8.toInt32, ((nar .char (((p1.toUInt32 >>> ((8 : Int32) &&& 31).toUInt32).toInt32) &&& (255 : Int32)).toUInt32.toUInt16.toUInt32.toInt32)).toInt8.toInt32]) (n := 2) gz115 Zf153 f150 f151 f152 Vb146 (S0.ext (f148).2) hz rfl rfl (Nat.le_of_ble_eq_true rfl) (Nat.le_of_ble_eq_true rfl) (List.forall_mem_cons.mpr ⟨own_lo8 _, (List.forall_mem_cons.mpr ⟨own_lo8 _, (fun _ q => nomatch q)⟩)⟩) rfl (by decide) (by decide)) (g := (mkF m 90 #[.val (.int p1), .val (.int (((p1.toUInt32 >>> ((24 : Int32) &&& 31).toUInt32).toInt32) &&& (3 : Int32))), .val (.int (p1 &&& (255 : Int32)).toUInt32.toUInt16.toUInt32.toInt32), .val (.int (((p1.toUInt32 >>> ((8 : Int32) &&& 31).toUInt32).toInt32) &&& (255 : Int32)).toUInt32.toUInt16.toUInt32.toInt32), .val (.int (((p1.toUInt32 >>> ((16 : Int32) &&& 31).toUInt32).toInt32) &&& (255 : Int32)).toUInt32.toUInt16.toUInt32.toInt32)] [(.ref b123), (.ref b114), (.ref b114)])) rfl (by rw [hml]; rfl) (Steps.refl _) (a := b114) (argsL := [(.ref b123)]) (rest := [(.ref b114)]) (lenOf pd__28_5bC_29V rfl) rfl (by show 2 * 0 + _ ≤ _; exact Nat.le_of_eq rfl) (hb hby d1_90) (fun _ _ => ⟨rfl, e146, (by decide : 2 + 1 ≤ _), (by decide : 6 + 2 ≤ _)⟩)
        dsimp only [Pt.U, Pt.locs, Pt.cells, Pt.slots] at X155 l155 y155 z155 st155 hQ155
        subst l155 y155 z155
        obtain ⟨rfl, N155q, K155, Ex155, Fc155, t155, kt155, gt155, sg155, nt155, Fv155, Va155⟩ := hQ155
        have N155 := Fr.app Ng146 N155q
        have ne156 : b114 ≠ t155 := Nat.ne_of_lt (Nat.lt_of_lt_of_le (f150).lt sg155)
        have ne157 : b123 ≠ t155 := Nat.ne_of_lt (Nat.lt_of_lt_of_le (Vb146).lt sg155)
        have sz158 := Nat.le_trans (f149).1 sg155
        have sy159 := Nat.le_trans (f147).1 sg155
        have f160 := (f147).trans K155 (own_all1 (Or.inr (Nat.le_trans ((Keep.refl h0 [])).1 (Nat.le_of_eq g114.symm))))
        have f161 := (f148).keep K155 (own_all1 gz115)
        have f162 := (f149).trans K155 (own_all1 ((Or.inr (Nat.le_trans ((Keep.refl h0 [])).1 (Nat.le_of_eq g114.symm)))))
        have f163 := (f150).keep K155
        have f164 := (Vb146).keep K155 (own_notin1 (Ne.symm ne124))
        have Zf165 : n0 ≤ T155.heap.size := Nat.le_trans Zf153 (K155).1
        have Vw155 : Arv Z T155.heap t155 kt155 .byte (2 : Int32) [(.int ((nar .char (p1 &&& (255 : Int32)).toUInt32.toUInt16.toUInt32.toInt32)).toInt8.toInt32), (.int ((nar .char (((p1.toUInt32 >>> ((8 : Int32) &&& 31).toUInt32).toInt32) &&& (255 : Int32)).toUInt32.toUInt16.toUInt32.toInt32)).toInt8.toInt32)] (.int (0 : Int32)) := Va155
        have pre166 : ∀ t, Steps p.tables e below (T155.setTop (mkF m 93 #[.val (.int p1), .val (.int (((p1.toUInt32 >>> ((24 : Int32) &&& 31).toUInt32).toInt32) &&& (3 : Int32))), .val (.int (p1 &&& (255 : Int32)).toUInt32.toUInt16.toUInt32.toInt32), .val (.int (((p1.toUInt32 >>> ((8 : Int32) &&& 31).toUInt32).toInt32) &&& (255 : Int32)).toUInt32.toUInt16.toUInt32.toInt32), .val (.int (((p1.toUInt32 >>> ((16 : Int32) &&& 31).toUInt32).toInt32) &&& (255 : Int32)).toUInt32.toUInt16.toUInt32.toInt32)] [(.ref b114)])) t → Steps p.tables e below (s₁.setTop (entryFrame m #[(.int p1)] 5)) t := fun t kt => pre154 t (st155.trans kt)
        have sf168 : ∀ y ∈ ([] : List Addr), Safe Z own_EL s.vm h0 y := sf0
        have ch168 : CHr Z own_EL s.vm h0 s.vm T155.heap := CHr.trans (CHr.refl hI) (CHr.keep f160 sf168 ((CHr.refl hI)).1)
        have sa169 : Safe Z own_EL s.vm T155.heap b114 := own_safe f160 sf168 ((CHr.refl hI)).1 ((Nat.le_trans ((Keep.refl h0 [])).1 (Nat.le_of_eq g114.symm)))
        have sa170 : Safe Z own_EL s.vm T155.heap b123 := own_safe f160 sf168 ((CHr.refl hI)).1 ((Nat.le_trans (f117).1 (Nat.le_of_eq g123.symm)))
        have sa171 : Safe Z own_EL s.vm T155.heap t155 := own_safe f160 sf168 ((CHr.refl hI)).1 (sy159)
        have hCf : CHr Z own_EL s.vm s.heap T155.vm T155.heap := by
          rw [hh]
          exact CHr.trans ch168 (CHv.at (s := s) (vm0 := s.vm) X155 hZ (own_EW hw) (ch168).1)
        obtain ⟨fs, hr, hrun, hended, hW, hsame⟩ := X155.leave (v := (some (.ref b114))) (fun h => by rw [Bd.returns] at h; cases h)
        refine ⟨_, _, pre166 _ ?_, hrun, hended, _, _, rfl, ?_, hCf, ReturnedEndW.of_narrow ⟨_, rfl⟩ hW (hsame.mono (by decide) (by decide))⟩
        · exact retOut X155 hx Bd.returns rfl (Or.inr (Or.inr (Or.inr (Or.inr ⟨rfl, rfl, rfl⟩)))) (hb hby d1_93) hr
        · show QMk Z  h0 n0 _ T155.heap _
          exact ⟨_, _, _, [(nar .char (p1 &&& (255 : Int32)).toUInt32.toUInt16.toUInt32.toInt32), (nar .char (((p1.toUInt32 >>> ((8 : Int32) &&& 31).toUInt32).toInt32) &&& (255 : Int32)).toUInt32.toUInt16.toUInt32.toInt32)], rfl, N155, f162, Nat.le_of_ble_eq_true rfl, (List.forall_mem_cons.mpr ⟨own_lo8 _, (List.forall_mem_cons.mpr ⟨own_lo8 _, (fun _ q => nomatch q)⟩)⟩), Ex155, Fv155, Fc155, Vw155⟩
      · have pre172 : ∀ t, Steps p.tables e below (s₁.setTop (mkF m 94 #[.val (.int p1), .val (.int (((p1.toUInt32 >>> ((24 : Int32) &&& 31).toUInt32).toInt32) &&& (3 : Int32))), .val (.int (p1 &&& (255 : Int32)).toUInt32.toUInt16.toUInt32.toInt32), .val (.int (((p1.toUInt32 >>> ((8 : Int32) &&& 31).toUInt32).toInt32) &&& (255 : Int32)).toUInt32.toUInt16.toUInt32.toInt32), .val (.int (((p1.toUInt32 >>> ((16 : Int32) &&& 31).toUInt32).toInt32) &&& (255 : Int32)).toUInt32.toUInt16.toUInt32.toInt32)] [])) t → Steps p.tables e below (s₁.setTop (entryFrame m #[(.int p1)] 5)) t := fun t kt => pre112 t (by
          refine XS.icmpYes X0.here hx rfl (pc0 := 72) (pc' := 94) rfl (hb hby d1_72) rfl (feq c72_3).2 (by decide) (by decide) ?_
          show Steps p.tables e below (s₁.setTop (mkF m 94 #[.val (.int p1), .val (.int (((p1.toUInt32 >>> ((24 : Int32) &&& 31).toUInt32).toInt32) &&& (3 : Int32))), .val (.int (p1 &&& (255 : Int32)).toUInt32.toUInt16.toUInt32.toInt32), .val (.int (((p1.toUInt32 >>> ((8 : Int32) &&& 31).toUInt32).toInt32) &&& (255 : Int32)).toUInt32.toUInt16.toUInt32.toInt32), .val (.int (((p1.toUInt32 >>> ((16 : Int32) &&& 31).toUInt32).toInt32) &&& (255 : Int32)).toUInt32.toUInt16.toUInt32.toInt32)] [])) _
          exact kt)
        obtain ⟨T173, h173, X173, e173, E173, A173, D173, -, st173⟩ := newO X0 hx hZ hown (hw _ (List.mem_of_getElem? (i := 4) rfl)) (hw _ (List.mem_of_getElem? (i := 5) rfl)) (hw _ (List.mem_of_getElem? (i := 6) rfl)) e0 (g := (mkF m 94 #[.val (.int p1), .val (.int (((p1.toUInt32 >>> ((24 : Int32) &&& 31).toUInt32).toInt32) &&& (3 : Int32))), .val (.int (p1 &&& (255 : Int32)).toUInt32.toUInt16.toUInt32.toInt32), .val (.int (((p1.toUInt32 >>> ((8 : Int32) &&& 31).toUInt32).toInt32) &&& (255 : Int32)).toUInt32.toUInt16.toUInt32.toInt32), .val (.int (((p1.toUInt32 >>> ((16 : Int32) &&& 31).toUInt32).toInt32) &&& (255 : Int32)).toUInt32.toUInt16.toUInt32.toInt32)] [])) rfl (hb hby d1_94) (by decide) (by decide)
        obtain ⟨b173, g173⟩ : ∃ z, z = h0.size := ⟨_, rfl⟩
        rw [← g173] at A173 D173 st173
        have gz174 : n0 ≤ b173 := Nat.le_trans Z0 (Nat.le_of_eq g173.symm)
        have f176 := ((Keep.refl h0 [])).ext E173
        have f177 := (O0).ext E173
        have f178 := ((Keep.refl h0 [])).ext E173
        have Zf179 : n0 ≤ h173.size := Nat.le_trans Z0 E173.1
        have F173_value : Fld Z h173 b173 "java/lang/String" "value" "[B" .null := D173 (Or.inr (hw _ (List.mem_of_getElem? (i := 20) rfl))) (ty := (.array .byte)) (by decide)
        have F173_coder : Fld Z h173 b173 "java/lang/String" "coder" "B" (.int (0 : Int32)) := D173 (Or.inr (hw _ (List.mem_of_getElem? (i := 21) rfl))) (ty := .byte) (by decide)
        have pre180 : ∀ t, Steps p.tables e below (T173.setTop (mkF m 97 #[.val (.int p1), .val (.int (((p1.toUInt32 >>> ((24 : Int32) &&& 31).toUInt32).toInt32) &&& (3 : Int32))), .val (.int (p1 &&& (255 : Int32)).toUInt32.toUInt16.toUInt32.toInt32), .val (.int (((p1.toUInt32 >>> ((8 : Int32) &&& 31).toUInt32).toInt32) &&& (255 : Int32)).toUInt32.toUInt16.toUInt32.toInt32), .val (.int (((p1.toUInt32 >>> ((16 : Int32) &&& 31).toUInt32).toInt32) &&& (255 : Int32)).toUInt32.toUInt16.toUInt32.toInt32)] [(.ref b173)])) t → Steps p.tables e below (s₁.setTop (entryFrame m #[(.int p1)] 5)) t := fun t kt => pre172 t (st173 _ kt)
        have pre181 : ∀ t, Steps p.tables e below (T173.setTop (mkF m 99 #[.val (.int p1), .val (.int (((p1.toUInt32 >>> ((24 : Int32) &&& 31).toUInt32).toInt32) &&& (3 : Int32))), .val (.int (p1 &&& (255 : Int32)).toUInt32.toUInt16.toUInt32.toInt32), .val (.int (((p1.toUInt32 >>> ((8 : Int32) &&& 31).toUInt32).toInt32) &&& (255 : Int32)).toUInt32.toUInt16.toUInt32.toInt32), .val (.int (((p1.toUInt32 >>> ((16 : Int32) &&& 31).toUInt32).toInt32) &&& (255 : Int32)).toUInt32.toUInt16.toUInt32.toInt32)] [(.int (3 : Int32)), (.ref b173), (.ref b173)])) t → Steps p.tables e below (s₁.setTop (entryFrame m #[(.int p1)] 5)) t := fun t kt => pre180 t (by
          refine XS.dup X173.here hx rfl (hb hby d1_97) rfl rfl ?_
          show Steps p.tables e below (T173.setTop (mkF m 98 #[.val (.int p1), .val (.int (((p1.toUInt32 >>> ((24 : Int32) &&& 31).toUInt32).toInt32) &&& (3 : Int32))), .val (.int (p1 &&& (255 : Int32)).toUInt32.toUInt16.toUInt32.toInt32), .val (.int (((p1.toUInt32 >>> ((8 : Int32) &&& 31).toUInt32).toInt32) &&& (255 : Int32)).toUInt32.toUInt16.toUInt32.toInt32), .val (.int (((p1.toUInt32 >>> ((16 : Int32) &&& 31).toUInt32).toInt32) &&& (255 : Int32)).toUInt32.toUInt16.toUInt32.toInt32)] [(.ref b173), (.ref b173)])) _
          refine XS.iconst X173.here hx rfl (hb hby d1_98) ?_
          show Steps p.tables e below (T173.setTop (mkF m 99 #[.val (.int p1), .val (.int (((p1.toUInt32 >>> ((24 : Int32) &&& 31).toUInt32).toInt32) &&& (3 : Int32))), .val (.int (p1 &&& (255 : Int32)).toUInt32.toUInt16.toUInt32.toInt32), .val (.int (((p1.toUInt32 >>> ((8 : Int32) &&& 31).toUInt32).toInt32) &&& (255 : Int32)).toUInt32.toUInt16.toUInt32.toInt32), .val (.int (((p1.toUInt32 >>> ((16 : Int32) &&& 31).toUInt32).toInt32) &&& (255 : Int32)).toUInt32.toUInt16.toUInt32.toInt32)] [(.int (3 : Int32)), (.ref b173), (.ref b173)])) _
          exact kt)
        obtain ⟨T182, h182, k182, X182, e182, E182, A182, st182⟩ := newP X173 hx hZ (hw _ (List.mem_of_getElem? (i := 7) rfl)) e173 (g := (mkF m 99 #[.val (.int p1), .val (.int (((p1.toUInt32 >>> ((24 : Int32) &&& 31).toUInt32).toInt32) &&& (3 : Int32))), .val (.int (p1 &&& (255 : Int32)).toUInt32.toUInt16.toUInt32.toInt32), .val (.int (((p1.toUInt32 >>> ((8 : Int32) &&& 31).toUInt32).toInt32) &&& (255 : Int32)).toUInt32.toUInt16.toUInt32.toInt32), .val (.int (((p1.toUInt32 >>> ((16 : Int32) &&& 31).toUInt32).toInt32) &&& (255 : Int32)).toUInt32.toUInt16.toUInt32.toInt32)] [(.int (3 : Int32)), (.ref b173), (.ref b173)])) rfl (hb hby d1_99) rfl (by decide) (cap := 3) (by decide) (by decide) (by decide) (by decide)
        obtain ⟨b182, g182⟩ : ∃ z, z = h173.size := ⟨_, rfl⟩
        rw [← g182] at A182 st182
        have ne183 : b173 ≠ b182 := Nat.ne_of_lt (Nat.lt_of_lt_of_le (A173).lt (Nat.le_of_eq g182.symm))
        have gz184 : n0 ≤ b182 := Nat.le_trans Zf179 (Nat.le_of_eq g182.symm)
        have f186 := (f176).ext E182
        have f187 := (f177).ext E182
        have f188 := (f178).ext E182
        have f189 := (A173).ext E182
        have f190 := (F173_value).ext E182
        have f191 := (F173_coder).ext E182
        have Zf192 : n0 ≤ h182.size := Nat.le_trans Zf179 E182.1
        have V182 : Arv Z h182 b182 k182 .char (3 : Int32) [(.int (0 : Int32)), (.int (0 : Int32)), (.int (0 : Int32))] (.int (0 : Int32)) := (Arv.new A182 (by decide)).pad (pad_rep [] (.int (0 : Int32)) 3)
        have pre193 : ∀ t, Steps p.tables e below (T182.setTop (mkF m 101 #[.val (.int p1), .val (.int (((p1.toUInt32 >>> ((24 : Int32) &&& 31).toUInt32).toInt32) &&& (3 : Int32))), .val (.int (p1 &&& (255 : Int32)).toUInt32.toUInt16.toUInt32.toInt32), .val (.int (((p1.toUInt32 >>> ((8 : Int32) &&& 31).toUInt32).toInt32) &&& (255 : Int32)).toUInt32.toUInt16.toUInt32.toInt32), .val (.int (((p1.toUInt32 >>> ((16 : Int32) &&& 31).toUInt32).toInt32) &&& (255 : Int32)).toUInt32.toUInt16.toUInt32.toInt32)] [(.ref b182), (.ref b173), (.ref b173)])) t → Steps p.tables e below (s₁.setTop (entryFrame m #[(.int p1)] 5)) t := fun t kt => pre181 t (st182 _ kt)
        have pre194 : ∀ t, Steps p.tables e below (T182.setTop (mkF m 104 #[.val (.int p1), .val (.int (((p1.toUInt32 >>> ((24 : Int32) &&& 31).toUInt32).toInt32) &&& (3 : Int32))), .val (.int (p1 &&& (255 : Int32)).toUInt32.toUInt16.toUInt32.toInt32), .val (.int (((p1.toUInt32 >>> ((8 : Int32) &&& 31).toUInt32).toInt32) &&& (255 : Int32)).toUInt32.toUInt16.toUInt32.toInt32), .val (.int (((p1.toUInt32 >>> ((16 : Int32) &&& 31).toUInt32).toInt32) &&& (255 : Int32)).toUInt32.toUInt16.toUInt32.toInt32)] [(.int (p1 &&& (255 : Int32)).toUInt32.toUInt16.toUInt32.toInt32), (.int (0 : Int32)), (.ref b182), (.ref b182), (.ref b173), (.ref b173)])) t → Steps p.tables e below (s₁.setTop (entryFrame m #[(.int p1)] 5)) t := fun t kt => pre193 t (by
          refine XS.dup X182.here hx rfl (hb hby d1_101) rfl rfl ?_
          show Steps p.tables e below (T182.setTop (mkF m 102 #[.val (.int p1), .val (.int (((p1.toUInt32 >>> ((24 : Int32) &&& 31).toUInt32).toInt32) &&& (3 : Int32))), .val (.int (p1 &&& (255 : Int32)).toUInt32.toUInt16.toUInt32.toInt32), .val (.int (((p1.toUInt32 >>> ((8 : Int32) &&& 31).toUInt32).toInt32) &&& (255 : Int32)).toUInt32.toUInt16.toUInt32.toInt32), .val (.int (((p1.toUInt32 >>> ((16 : Int32) &&& 31).toUInt32).toInt32) &&& (255 : Int32)).toUInt32.toUInt16.toUInt32.toInt32)] [(.ref b182), (.ref b182), (.ref b173), (.ref b173)])) _
          refine XS.iconst X182.here hx rfl (hb hby d1_102) ?_
          show Steps p.tables e below (T182.setTop (mkF m 103 #[.val (.int p1), .val (.int (((p1.toUInt32 >>> ((24 : Int32) &&& 31).toUInt32).toInt32) &&& (3 : Int32))), .val (.int (p1 &&& (255 : Int32)).toUInt32.toUInt16.toUInt32.toInt32), .val (.int (((p1.toUInt32 >>> ((8 : Int32) &&& 31).toUInt32).toInt32) &&& (255 : Int32)).toUInt32.toUInt16.toUInt32.toInt32), .val (.int (((p1.toUInt32 >>> ((16 : Int32) &&& 31).toUInt32).toInt32) &&& (255 : Int32)).toUInt32.toUInt16.toUInt32.toInt32)] [(.int (0 : Int32)), (.ref b182), (.ref b182), (.ref b173), (.ref b173)])) _
          refine XS.iloadN X182.here hx rfl (hb hby d1_103) rfl ?_
          show Steps p.tables e below (T182.setTop (mkF m 104 #[.val (.int p1), .val (.int (((p1.toUInt32 >>> ((24 : Int32) &&& 31).toUInt32).toInt32) &&& (3 : Int32))), .val (.int (p1 &&& (255 : Int32)).toUInt32.toUInt16.toUInt32.toInt32), .val (.int (((p1.toUInt32 >>> ((8 : Int32) &&& 31).toUInt32).toInt32) &&& (255 : Int32)).toUInt32.toUInt16.toUInt32.toInt32), .val (.int (((p1.toUInt32 >>> ((16 : Int32) &&& 31).toUInt32).toInt32) &&& (255 : Int32)).toUInt32.toUInt16.toUInt32.toInt32)] [(.int (p1 &&& (255 : Int32)).toUInt32.toUInt16.toUInt32.toInt32), (.int (0 : Int32)), (.ref b182), (.ref b182), (.ref b173), (.ref b173)])) _
          exact kt)
        obtain ⟨cl195, Ar195, q195, S195, M195, H195, G195⟩ := V182
        have hin195 : ¬ ((0 : Int32) < 0 ∨ cl195.slots.size ≤ ((0 : Int32)).toNatClampNeg) := inb_of S195 ⟨by decide, by decide⟩
        obtain ⟨T195, h195, X195, e195, W195, st195⟩ := stC X182 hx hZ e182 Ar195 (j := (0 : Int32)) hin195 (g := (mkF m 104 #[.val (.int p1), .val (.int (((p1.toUInt32 >>> ((24 : Int32) &&& 31).toUInt32).toInt32) &&& (3 : Int32))), .val (.int (p1 &&& (255 : Int32)).toUInt32.toUInt16.toUInt32.toInt32), .val (.int (((p1.toUInt32 >>> ((8 : Int32) &&& 31).toUInt32).toInt32) &&& (255 : Int32)).toUInt32.toUInt16.toUInt32.toInt32), .val (.int (((p1.toUInt32 >>> ((16 : Int32) &&& 31).toUInt32).toInt32) &&& (255 : Int32)).toUInt32.toUInt16.toUInt32.toInt32)] [(.int (p1 &&& (255 : Int32)).toUInt32.toUInt16.toUInt32.toInt32), (.int (0 : Int32)), (.ref b182), (.ref b182), (.ref b173), (.ref b173)])) rfl rfl (hb hby d1_104)
        have f196 := (f186).wr W195 (Or.inr (Nat.le_trans (f176).1 (Nat.le_of_eq g182.symm)))
        have f197 := (f187).wr W195 gz184
        have f198 := (f188).wr W195 ((Or.inr (Nat.le_trans (f178).1 (Nat.le_of_eq g182.symm))))
        have f199 := (f189).wr W195
        have f200 := (f190).other W195 (Or.inl ne183)
        have f201 := (f191).other W195 (Or.inl ne183)
        have Va195 := Arv.set Ar195 q195 S195 M195 H195 G195 (fits_nar_char _) W195 0 rfl (Nat.le_of_ble_eq_true rfl)
        have Vb195 : Arv Z h195 b182 k182 .char (3 : Int32) [(.int (nar .char (p1 &&& (255 : Int32)).toUInt32.toUInt16.toUInt32.toInt32)), (.int (0 : Int32)), (.int (0 : Int32))] (.int (0 : Int32)) := Va195
        have Nf195 := Fr.snoc X195 N0 gz184
        have Zf202 : n0 ≤ h195.size := Nat.le_trans Zf192 (Keep.of_wr W195).1
        obtain ⟨Lg195, Xg195, Ng195⟩ := own_gen (P := fun L => Stand p l e _ _ m _ below meth c T195 L _ _) X195 Nf195
        have pre203 : ∀ t, Steps p.tables e below (T195.setTop (mkF m 105 #[.val (.int p1), .val (.int (((p1.toUInt32 >>> ((24 : Int32) &&& 31).toUInt32).toInt32) &&& (3 : Int32))), .val (.int (p1 &&& (255 : Int32)).toUInt32.toUInt16.toUInt32.toInt32), .val (.int (((p1.toUInt32 >>> ((8 : Int32) &&& 31).toUInt32).toInt32) &&& (255 : Int32)).toUInt32.toUInt16.toUInt32.toInt32), .val (.int (((p1.toUInt32 >>> ((16 : Int32) &&& 31).toUInt32).toInt32) &&& (255 : Int32)).toUInt32.toUInt16.toUInt32.toInt32)] [(.ref b182), (.ref b173), (.ref b173)])) t → Steps p.tables e below (s₁.setTop (entryFrame m #[(.int p1)] 5)) t := fun t kt => pre194 t (st195 _ kt)
        have pre204 : ∀ t, Steps p.tables e below (T195.setTop (mkF m 108 #[.val (.int p1), .val (.int (((p1.toUInt32 >>> ((24 : Int32) &&& 31).toUInt32).toInt32) &&& (3 : Int32))), .val (.int (p1 &&& (255 : Int32)).toUInt32.toUInt16.toUInt32.toInt32), .val (.int (((p1.toUInt32 >>> ((8 : Int32) &&& 31).toUInt32).toInt32) &&& (255 : Int32)).toUInt32.toUInt16.toUInt32.toInt32), .val (.int (((p1.toUInt32 >>> ((16 : Int32) &&& 31).toUInt32).toInt32) &&& (255 : Int32)).toUInt32.toUInt16.toUInt32.toInt32)] [(.int (((p1.toUInt32 >>> ((8 : Int32) &&& 31).toUInt32).toInt32) &&& (255 : Int32)).toUInt32.toUInt16.toUInt32.toInt32), (.int (1 : Int32)), (.ref b182), (.ref b182), (.ref b173), (.ref b173)])) t → Steps p.tables e below (s₁.setTop (entryFrame m #[(.int p1)] 5)) t := fun t kt => pre203 t (by
          refine XS.dup Xg195.here hx rfl (hb hby d1_105) rfl rfl ?_
          show Steps p.tables e below (T195.setTop (mkF m 106 #[.val (.int p1), .val (.int (((p1.toUInt32 >>> ((24 : Int32) &&& 31).toUInt32).toInt32) &&& (3 : Int32))), .val (.int (p1 &&& (255 : Int32)).toUInt32.toUInt16.toUInt32.toInt32), .val (.int (((p1.toUInt32 >>> ((8 : Int32) &&& 31).toUInt32).toInt32) &&& (255 : Int32)).toUInt32.toUInt16.toUInt32.toInt32), .val (.int (((p1.toUInt32 >>> ((16 : Int32) &&& 31).toUInt32).toInt32) &&& (255 : Int32)).toUInt32.toUInt16.toUInt32.toInt32)] [(.ref b182), (.ref b182), (.ref b173), (.ref b173)])) _
          refine XS.iconst Xg195.here hx rfl (hb hby d1_106) ?_
          show Steps p.tables e below (T195.setTop (mkF m 107 #[.val (.int p1), .val (.int (((p1.toUInt32 >>> ((24 : Int32) &&& 31).toUInt32).toInt32) &&& (3 : Int32))), .val (.int (p1 &&& (255 : Int32)).toUInt32.toUInt16.toUInt32.toInt32), .val (.int (((p1.toUInt32 >>> ((8 : Int32) &&& 31).toUInt32).toInt32) &&& (255 : Int32)).toUInt32.toUInt16.toUInt32.toInt32), .val (.int (((p1.toUInt32 >>> ((16 : Int32) &&& 31).toUInt32).toInt32) &&& (255 : Int32)).toUInt32.toUInt16.toUInt32.toInt32)] [(.int (1 : Int32)), (.ref b182), (.ref b182), (.ref b173), (.ref b173)])) _
          refine XS.iloadN Xg195.here hx rfl (hb hby d1_107) rfl ?_
          show Steps p.tables e below (T195.setTop (mkF m 108 #[.val (.int p1), .val (.int (((p1.toUInt32 >>> ((24 : Int32) &&& 31).toUInt32).toInt32) &&& (3 : Int32))), .val (.int (p1 &&& (255 : Int32)).toUInt32.toUInt16.toUInt32.toInt32), .val (.int (((p1.toUInt32 >>> ((8 : Int32) &&& 31).toUInt32).toInt32) &&& (255 : Int32)).toUInt32.toUInt16.toUInt32.toInt32), .val (.int (((p1.toUInt32 >>> ((16 : Int32) &&& 31).toUInt32).toInt32) &&& (255 : Int32)).toUInt32.toUInt16.toUInt32.toInt32)] [(.int (((p1.toUInt32 >>> ((8 : Int32) &&& 31).toUInt32).toInt32) &&& (255 : Int32)).toUInt32.toUInt16.toUInt32.toInt32), (.int (1 : Int32)), (.ref b182), (.ref b182), (.ref b173), (.ref b173)])) _
          exact kt)
        obtain ⟨cl205, Ar205, q205, S205, M205, H205, G205⟩ := Vb195
        have hin205 : ¬ ((1 : Int32) < 0 ∨ cl205.slots.size ≤ ((1 : Int32)).toNatClampNeg) := inb_of S205 ⟨by decide, by decide⟩
        obtain ⟨T205, h205, X205, e205, W205, st205⟩ := stC Xg195 hx hZ e195 Ar205 (j := (1 : Int32)) hin205 (g := (mkF m 108 #[.val (.int p1), .val (.int (((p1.toUInt32 >>> ((24 : Int32) &&& 31).toUInt32).toInt32) &&& (3 : Int32))), .val (.int (p1 &&& (255 : Int32)).toUInt32.toUInt16.toUInt32.toInt32), .val (.int (((p1.toUInt32 >>> ((8 : Int32) &&& 31).toUInt32).toInt32) &&& (255 : Int32)).toUInt32.toUInt16.toUInt32.toInt32), .val (.int (((p1.toUInt32 >>> ((16 : Int32) &&& 31).toUInt32).toInt32) &&& (255 : Int32)).toUInt32.toUInt16.toUInt32.toInt32)] [(.int (((p1.toUInt32 >>> ((8 : Int32) &&& 31).toUInt32).toInt32) &&& (255 : Int32)).toUInt32.toUInt16.toUInt32.toInt32), (.int (1 : Int32)), (.ref b182), (.ref b182), (.ref b173), (.ref b173)])) rfl rfl (hb hby d1_108)
        have f206 := (f196).wr W205 (Or.inr (Nat.le_trans (f176).1 (Nat.le_of_eq g182.symm)))
        have f207 := (f197).wr W205 gz184
        have f208 := (f198).wr W205 ((Or.inr (Nat.le_trans (f178).1 (Nat.le_of_eq g182.symm))))
        have f209 := (f199).wr W205
        have f210 := (f200).other W205 (Or.inl ne183)
        have f211 := (f201).other W205 (Or.inl ne183)
        have Va205 := Arv.set Ar205 q205 S205 M205 H205 G205 (fits_nar_char _) W205 1 rfl (Nat.le_of_ble_eq_true rfl)
        have Vb205 : Arv Z h205 b182 k182 .char (3 : Int32) [(.int (nar .char (p1 &&& (255 : Int32)).toUInt32.toUInt16.toUInt32.toInt32)), (.int (nar .char (((p1.toUInt32 >>> ((8 : Int32) &&& 31).toUInt32).toInt32) &&& (255 : Int32)).toUInt32.toUInt16.toUInt32.toInt32)), (.int (0 : Int32))] (.int (0 : Int32)) := Va205
        have Nf205 := Fr.snoc X205 Ng195 gz184
        have Zf212 : n0 ≤ h205.size := Nat.le_trans Zf202 (Keep.of_wr W205).1
        obtain ⟨Lg205, Xg205, Ng205⟩ := own_gen (P := fun L => Stand p l e _ _ m _ below meth c T205 L _ _) X205 Nf205
        have pre213 : ∀ t, Steps p.tables e below (T205.setTop (mkF m 109 #[.val (.int p1), .val (.int (((p1.toUInt32 >>> ((24 : Int32) &&& 31).toUInt32).toInt32) &&& (3 : Int32))), .val (.int (p1 &&& (255 : Int32)).toUInt32.toUInt16.toUInt32.toInt32), .val (.int (((p1.toUInt32 >>> ((8 : Int32) &&& 31).toUInt32).toInt32) &&& (255 : Int32)).toUInt32.toUInt16.toUInt32.toInt32), .val (.int (((p1.toUInt32 >>> ((16 : Int32) &&& 31).toUInt32).toInt32) &&& (255 : Int32)).toUInt32.toUInt16.toUInt32.toInt32)] [(.ref b182), (.ref b173), (.ref b173)])) t → Steps p.tables e below (s₁.setTop (entryFrame m #[(.int p1)] 5)) t := fun t kt => pre204 t (st205 _ kt)
        have pre214 : ∀ t, Steps p.tables e below (T205.setTop (mkF m 113 #[.val (.int p1), .val (.int (((p1.toUInt32 >>> ((24 : Int32) &&& 31).toUInt32).toInt32) &&& (3 : Int32))), .val (.int (p1 &&& (255 : Int32)).toUInt32.toUInt16.toUInt32.toInt32), .val (.int (((p1.toUInt32 >>> ((8 : Int32) &&& 31).toUInt32).toInt32) &&& (255 : Int32)).toUInt32.toUInt16.toUInt32.toInt32), .val (.int (((p1.toUInt32 >>> ((16 : Int32) &&& 31).toUInt32).toInt32) &&& (255 : Int32)).toUInt32.toUInt16.toUInt32.toInt32)] [(.int (((p1.toUInt32 >>> ((16 : Int32) &&& 31).toUInt32).toInt32) &&& (255 : Int32)).toUInt32.toUInt16.toUInt32.toInt32), (.int (2 : Int32)), (.ref b182), (.ref b182), (.ref b173), (.ref b173)])) t → Steps p.tables e below (s₁.setTop (entryFrame m #[(.int p1)] 5)) t := fun t kt => pre213 t (by
          refine XS.dup Xg205.here hx rfl (hb hby d1_109) rfl rfl ?_
          show Steps p.tables e below (T205.setTop (mkF m 110 #[.val (.int p1), .val (.int (((p1.toUInt32 >>> ((24 : Int32) &&& 31).toUInt32).toInt32) &&& (3 : Int32))), .val (.int (p1 &&& (255 : Int32)).toUInt32.toUInt16.toUInt32.toInt32), .val (.int (((p1.toUInt32 >>> ((8 : Int32) &&& 31).toUInt32).toInt32) &&& (255 : Int32)).toUInt32.toUInt16.toUInt32.toInt32), .val (.int (((p1.toUInt32 >>> ((16 : Int32) &&& 31).toUInt32).toInt32) &&& (255 : Int32)).toUInt32.toUInt16.toUInt32.toInt32)] [(.ref b182), (.ref b182), (.ref b173), (.ref b173)])) _
          refine XS.iconst Xg205.here hx rfl (hb hby d1_110) ?_
          show Steps p.tables e below (T205.setTop (mkF m 111 #[.val (.int p1), .val (.int (((p1.toUInt32 >>> ((24 : Int32) &&& 31).toUInt32).toInt32) &&& (3 : Int32))), .val (.int (p1 &&& (255 : Int32)).toUInt32.toUInt16.toUInt32.toInt32), .val (.int (((p1.toUInt32 >>> ((8 : Int32) &&& 31).toUInt32).toInt32) &&& (255 : Int32)).toUInt32.toUInt16.toUInt32.toInt32), .val (.int (((p1.toUInt32 >>> ((16 : Int32) &&& 31).toUInt32).toInt32) &&& (255 : Int32)).toUInt32.toUInt16.toUInt32.toInt32)] [(.int (2 : Int32)), (.ref b182), (.ref b182), (.ref b173), (.ref b173)])) _
          refine XS.iload Xg205.here hx rfl (hb hby d1_111) rfl ?_
          show Steps p.tables e below (T205.setTop (mkF m 113 #[.val (.int p1), .val (.int (((p1.toUInt32 >>> ((24 : Int32) &&& 31).toUInt32).toInt32) &&& (3 : Int32))), .val (.int (p1 &&& (255 : Int32)).toUInt32.toUInt16.toUInt32.toInt32), .val (.int (((p1.toUInt32 >>> ((8 : Int32) &&& 31).toUInt32).toInt32) &&& (255 : Int32)).toUInt32.toUInt16.toUInt32.toInt32), .val (.int (((p1.toUInt32 >>> ((16 : Int32) &&& 31).toUInt32).toInt32) &&& (255 : Int32)).toUInt32.toUInt16.toUInt32.toInt32)] [(.int (((p1.toUInt32 >>> ((16 : Int32) &&& 31).toUInt32).toInt32) &&& (255 : Int32)).toUInt32.toUInt16.toUInt32.toInt32), (.int (2 : Int32)), (.ref b182), (.ref b182), (.ref b173), (.ref b173)])) _
          exact kt)
        obtain ⟨cl215, Ar215, q215, S215, M215, H215, G215⟩ := Vb205
        have hin215 : ¬ ((2 : Int32) < 0 ∨ cl215.slots.size ≤ ((2 : Int32)).toNatClampNeg) := inb_of S215 ⟨by decide, by decide⟩
        obtain ⟨T215, h215, X215, e215, W215, st215⟩ := stC Xg205 hx hZ e205 Ar215 (j := (2 : Int32)) hin215 (g := (mkF m 113 #[.val (.int p1), .val (.int (((p1.toUInt32 >>> ((24 : Int32) &&& 31).toUInt32).toInt32) &&& (3 : Int32))), .val (.int (p1 &&& (255 : Int32)).toUInt32.toUInt16.toUInt32.toInt32), .val (.int (((p1.toUInt32 >>> ((8 : Int32) &&& 31).toUInt32).toInt32) &&& (255 : Int32)).toUInt32.toUInt16.toUInt32.toInt32), .val (.int (((p1.toUInt32 >>> ((16 : Int32) &&& 31).toUInt32).toInt32) &&& (255 : Int32)).toUInt32.toUInt16.toUInt32.toInt32)] [(.int (((p1.toUInt32 >>> ((16 : Int32) &&& 31).toUInt32).toInt32) &&& (255 : Int32)).toUInt32.toUInt16.toUInt32.toInt32), (.int (2 : Int32)), (.ref b182), (.ref b182), (.ref b173), (.ref b173)])) rfl rfl (hb hby d1_113)
        have f216 := (f206).wr W215 (Or.inr (Nat.le_trans (f176).1 (Nat.le_of_eq g182.symm)))
        have f217 := (f207).wr W215 gz184
        have f218 := (f208).wr W215 ((Or.inr (Nat.le_trans (f178).1 (Nat.le_of_eq g182.symm))))
        have f219 := (f209).wr W215
        have f220 := (f210).other W215 (Or.inl ne183)
        have f221 := (f211).other W215 (Or.inl ne183)
        have Va215 := Arv.set Ar215 q215 S215 M215 H215 G215 (fits_nar_char _) W215 2 rfl (Nat.le_of_ble_eq_true rfl)
        have Vb215 : Arv Z h215 b182 k182 .char (3 : Int32) [(.int (nar .char (p1 &&& (255 : Int32)).toUInt32.toUInt16.toUInt32.toInt32)), (.int (nar .char (((p1.toUInt32 >>> ((8 : Int32) &&& 31).toUInt32).toInt32) &&& (255 : Int32)).toUInt32.toUInt16.toUInt32.toInt32)), (.int (nar .char (((p1.toUInt32 >>> ((16 : Int32) &&& 31).toUInt32).toInt32) &&& (255 : Int32)).toUInt32.toUInt16.toUInt32.toInt32))] (.int (0 : Int32)) := Va215
        have Nf215 := Fr.snoc X215 Ng205 gz184
        have Zf222 : n0 ≤ h215.size := Nat.le_trans Zf212 (Keep.of_wr W215).1
        obtain ⟨Lg215, Xg215, Ng215⟩ := own_gen (P := fun L => Stand p l e _ _ m _ below meth c T215 L _ _) X215 Nf215
        have pre223 : ∀ t, Steps p.tables e below (T215.setTop (mkF m 114 #[.val (.int p1), .val (.int (((p1.toUInt32 >>> ((24 : Int32) &&& 31).toUInt32).toInt32) &&& (3 : Int32))), .val (.int (p1 &&& (255 : Int32)).toUInt32.toUInt16.toUInt32.toInt32), .val (.int (((p1.toUInt32 >>> ((8 : Int32) &&& 31).toUInt32).toInt32) &&& (255 : Int32)).toUInt32.toUInt16.toUInt32.toInt32), .val (.int (((p1.toUInt32 >>> ((16 : Int32) &&& 31).toUInt32).toInt32) &&& (255 : Int32)).toUInt32.toUInt16.toUInt32.toInt32)] [(.ref b182), (.ref b173), (.ref b173)])) t → Steps p.tables e below (s₁.setTop (entryFrame m #[(.int p1)] 5)) t := fun t kt => pre214 t (st215 _ kt)
        obtain ⟨_, _, ⟨T224, L224, k224, n224⟩, -, X224, ⟨Lc224, hQ224, l224, y224, z224⟩, st224⟩ := Xg215.specialBack hx (y := (⟨"java/lang/String", "<init>", "([C)V"⟩ : MethodName)) rfl hown (mvT hZ (hw _ (List.mem_of_getElem? (i := 8) rfl))) (mvT hZ (hw _ (List.mem_of_getElem? (i := 9) rfl))) (mvT hZ (hw _ (List.mem_of_getElem? (i := 10) rfl))) (by decide) (StrChars.Road.backV (W := 1) hZ hws (kI := 4) (hw _ (List.mem_of_getElem? (i := 5) rfl)) (cs := [(nar .char (p1 &&& (255 : Int32)).toUInt32.toUInt16.toUInt32.toInt32), (nar .char (((p1.toUInt32 >>> ((8 : Int32) &&& 31).toUInt32).toInt32) &&& (255 : Int32)).toUInt32.toUInt16.toUInt32.toInt32), (nar .char (((p1.toUInt32 >>> ((16 : Int32) &&& 31).toUInt32).toInt32) &&& (255 : Int32)).toUInt32.toUInt16.toUInt32.toInt32)]) (bs := [((nar .char (p1 &&& (255 : Int32)).toUInt32.toUInt16.toUInt32.toInt32)).toInt8.toInt32, ((nar .char (((p1.toUInt32 >>> ((8 : Int32) &&& 31).toUInt32).toInt32) &&& (255 : Int32)).toUInt32.toUInt16.toUInt32.toInt32)).toInt8.toInt32, ((nar .char (((p1.toUInt32 >>> ((16 : Int32) &&& 31).toUInt32).toInt32) &&& (255 : Int32)).toUInt32.toUInt16.toUInt32.toInt32)).toInt8.toInt32]) (n := 3) gz174 Zf222 f219 f220 f221 Vb215 (S0.ext (f217).2) hz rfl rfl (Nat.le_of_ble_eq_true rfl) (Nat.le_of_ble_eq_true rfl) (List.forall_mem_cons.mpr ⟨own_lo8 _, (List.forall_mem_cons.mpr ⟨own_lo8 _, (List.forall_mem_cons.mpr ⟨own_lo8 _, (fun _ q => nomatch q)⟩)⟩)⟩) rfl (by decide) (by decide)) (g := (mkF m 114 #[.val (.int p1), .val (.int (((p1.toUInt32 >>> ((24 : Int32) &&& 31).toUInt32).toInt32) &&& (3 : Int32))), .val (.int (p1 &&& (255 : Int32)).toUInt32.toUInt16.toUInt32.toInt32), .val (.int (((p1.toUInt32 >>> ((8 : Int32) &&& 31).toUInt32).toInt32) &&& (255 : Int32)).toUInt32.toUInt16.toUInt32.toInt32), .val (.int (((p1.toUInt32 >>> ((16 : Int32) &&& 31).toUInt32).toInt32) &&& (255 : Int32)).toUInt32.toUInt16.toUInt32.toInt32)] [(.ref b182), (.ref b173), (.ref b173)])) rfl (by rw [hml]; rfl) (Steps.refl _) (a := b173) (argsL := [(.ref b182)]) (rest := [(.ref b173)]) (lenOf pd__28_5bC_29V rfl) rfl (by show 2 * 0 + _ ≤ _; exact Nat.le_of_eq rfl) (hb hby d1_114) (fun _ _ => ⟨rfl, e215, (by decide : 2 + 1 ≤ _), (by decide : 7 + 3 ≤ _)⟩)
        dsimp only [Pt.U, Pt.locs, Pt.cells, Pt.slots] at X224 l224 y224 z224 st224 hQ224
        subst l224 y224 z224
        obtain ⟨rfl, N224q, K224, Ex224, Fc224, t224, kt224, gt224, sg224, nt224, Fv224, Va224⟩ := hQ224
        have N224 := Fr.app Ng215 N224q
        have ne225 : b173 ≠ t224 := Nat.ne_of_lt (Nat.lt_of_lt_of_le (f219).lt sg224)
        have ne226 : b182 ≠ t224 := Nat.ne_of_lt (Nat.lt_of_lt_of_le (Vb215).lt sg224)
        have sz227 := Nat.le_trans (f218).1 sg224
        have sy228 := Nat.le_trans (f216).1 sg224
        have f229 := (f216).trans K224 (own_all1 (Or.inr (Nat.le_trans ((Keep.refl h0 [])).1 (Nat.le_of_eq g173.symm))))
        have f230 := (f217).keep K224 (own_all1 gz174)
        have f231 := (f218).trans K224 (own_all1 ((Or.inr (Nat.le_trans ((Keep.refl h0 [])).1 (Nat.le_of_eq g173.symm)))))
        have f232 := (f219).keep K224
        have f233 := (Vb215).keep K224 (own_notin1 (Ne.symm ne183))
        have Zf234 : n0 ≤ T224.heap.size := Nat.le_trans Zf222 (K224).1
        have Vw224 : Arv Z T224.heap t224 kt224 .byte (3 : Int32) [(.int ((nar .char (p1 &&& (255 : Int32)).toUInt32.toUInt16.toUInt32.toInt32)).toInt8.toInt32), (.int ((nar .char (((p1.toUInt32 >>> ((8 : Int32) &&& 31).toUInt32).toInt32) &&& (255 : Int32)).toUInt32.toUInt16.toUInt32.toInt32)).toInt8.toInt32), (.int ((nar .char (((p1.toUInt32 >>> ((16 : Int32) &&& 31).toUInt32).toInt32) &&& (255 : Int32)).toUInt32.toUInt16.toUInt32.toInt32)).toInt8.toInt32)] (.int (0 : Int32)) := Va224
        have pre235 : ∀ t, Steps p.tables e below (T224.setTop (mkF m 117 #[.val (.int p1), .val (.int (((p1.toUInt32 >>> ((24 : Int32) &&& 31).toUInt32).toInt32) &&& (3 : Int32))), .val (.int (p1 &&& (255 : Int32)).toUInt32.toUInt16.toUInt32.toInt32), .val (.int (((p1.toUInt32 >>> ((8 : Int32) &&& 31).toUInt32).toInt32) &&& (255 : Int32)).toUInt32.toUInt16.toUInt32.toInt32), .val (.int (((p1.toUInt32 >>> ((16 : Int32) &&& 31).toUInt32).toInt32) &&& (255 : Int32)).toUInt32.toUInt16.toUInt32.toInt32)] [(.ref b173)])) t → Steps p.tables e below (s₁.setTop (entryFrame m #[(.int p1)] 5)) t := fun t kt => pre223 t (st224.trans kt)
        have sf237 : ∀ y ∈ ([] : List Addr), Safe Z own_EL s.vm h0 y := sf0
        have ch237 : CHr Z own_EL s.vm h0 s.vm T224.heap := CHr.trans (CHr.refl hI) (CHr.keep f229 sf237 ((CHr.refl hI)).1)
        have sa238 : Safe Z own_EL s.vm T224.heap b173 := own_safe f229 sf237 ((CHr.refl hI)).1 ((Nat.le_trans ((Keep.refl h0 [])).1 (Nat.le_of_eq g173.symm)))
        have sa239 : Safe Z own_EL s.vm T224.heap b182 := own_safe f229 sf237 ((CHr.refl hI)).1 ((Nat.le_trans (f176).1 (Nat.le_of_eq g182.symm)))
        have sa240 : Safe Z own_EL s.vm T224.heap t224 := own_safe f229 sf237 ((CHr.refl hI)).1 (sy228)
        have hCf : CHr Z own_EL s.vm s.heap T224.vm T224.heap := by
          rw [hh]
          exact CHr.trans ch237 (CHv.at (s := s) (vm0 := s.vm) X224 hZ (own_EW hw) (ch237).1)
        obtain ⟨fs, hr, hrun, hended, hW, hsame⟩ := X224.leave (v := (some (.ref b173))) (fun h => by rw [Bd.returns] at h; cases h)
        refine ⟨_, _, pre235 _ ?_, hrun, hended, _, _, rfl, ?_, hCf, ReturnedEndW.of_narrow ⟨_, rfl⟩ hW (hsame.mono (by decide) (by decide))⟩
        · exact retOut X224 hx Bd.returns rfl (Or.inr (Or.inr (Or.inr (Or.inr ⟨rfl, rfl, rfl⟩)))) (hb hby d1_117) hr
        · show QMk Z  h0 n0 _ T224.heap _
          exact ⟨_, _, _, [(nar .char (p1 &&& (255 : Int32)).toUInt32.toUInt16.toUInt32.toInt32), (nar .char (((p1.toUInt32 >>> ((8 : Int32) &&& 31).toUInt32).toInt32) &&& (255 : Int32)).toUInt32.toUInt16.toUInt32.toInt32), (nar .char (((p1.toUInt32 >>> ((16 : Int32) &&& 31).toUInt32).toInt32) &&& (255 : Int32)).toUInt32.toUInt16.toUInt32.toInt32)], rfl, N224, f231, Nat.le_of_ble_eq_true rfl, (List.forall_mem_cons.mpr ⟨own_lo8 _, (List.forall_mem_cons.mpr ⟨own_lo8 _, (List.forall_mem_cons.mpr ⟨own_lo8 _, (fun _ q => nomatch q)⟩)⟩)⟩), Ex224, Fv224, Fc224, Vw224⟩
def QMs (Z : State) (cs ds : List Int32) (h0 : Heap) (n0 : Nat) (v : Option Value) (h : Heap) (L : List Loc) : Prop := ∃ (u b t : Addr) (kt : ClassId), v = some (.ref u) ∧ Fr n0 L ∧ Keep h0 h [] ∧ Exa Z h u "kakehashi/cli/UsageException" ∧ Fld Z h u "java/lang/Throwable" "detailMessage" "Ljava/lang/String;" (.ref b) ∧ Exa Z h b "java/lang/String" ∧ Fld Z h b "java/lang/String" "value" "[B" (.ref t) ∧ Fld Z h b "java/lang/String" "coder" "B" (.int (0 : Int32)) ∧ Arv Z h t kt .byte (Int32.ofNat (own_M cs ds).length) (own_B (own_M cs ds)) (.int (0 : Int32))
theorem ef_rmMs (m : MethodId) (x0 : Addr) : entryFrame m #[(.ref x0)] 1 = mkF m 0 #[.val (.ref x0)] [] := by first | (simp [entryFrame, mkF, argsToLocals, Value.category]; done) | rfl
theorem d7_0 : decode prog_5_method_2_code 0 = .ok (.new 16, 3) := by decide +kernel
theorem d7_3 : decode prog_5_method_2_code 3 = .ok (.dup, 1) := by decide +kernel
theorem d7_4 : decode prog_5_method_2_code 4 = .ok (.new 18, 3) := by decide +kernel
theorem d7_7 : decode prog_5_method_2_code 7 = .ok (.dup, 1) := by decide +kernel
theorem d7_8 : decode prog_5_method_2_code 8 = .ok (.invokespecial 20, 3) := by decide +kernel
theorem d7_11 : decode prog_5_method_2_code 11 = .ok (.aload_n 0, 1) := by decide +kernel
theorem d7_12 : decode prog_5_method_2_code 12 = .ok (.getfield 7, 3) := by decide +kernel
theorem pd__28Ljava_2flang_2fString_3b_29Ljava_2flang_2fStringBuilder_3b : parseMethodDescriptor "(Ljava/lang/String;)Ljava/lang/StringBuilder;" = some ⟨[(.object "java/lang/String")], some (.object "java/lang/StringBuilder")⟩ := by decide +kernel
theorem d7_15 : decode prog_5_method_2_code 15 = .ok (.invokevirtual 21, 3) := by decide +kernel
theorem d7_18 : decode prog_5_method_2_code 18 = .ok (.ldc 25, 2) := by decide +kernel
theorem d7_20 : decode prog_5_method_2_code 20 = .ok (.invokevirtual 21, 3) := by decide +kernel
theorem d7_23 : decode prog_5_method_2_code 23 = .ok (.aload_n 0, 1) := by decide +kernel
theorem d7_24 : decode prog_5_method_2_code 24 = .ok (.getfield 13, 3) := by decide +kernel
theorem d7_27 : decode prog_5_method_2_code 27 = .ok (.invokevirtual 21, 3) := by decide +kernel
theorem pd__28_29Ljava_2flang_2fString_3b : parseMethodDescriptor "()Ljava/lang/String;" = some ⟨[], some (.object "java/lang/String")⟩ := by decide +kernel
theorem d7_30 : decode prog_5_method_2_code 30 = .ok (.invokevirtual 27, 3) := by decide +kernel
theorem d7_33 : decode prog_5_method_2_code 33 = .ok (.invokespecial 31, 3) := by decide +kernel
theorem d7_36 : decode prog_5_method_2_code 36 = .ok (.areturn, 1) := by decide +kernel
set_option maxRecDepth 65536 in
set_option maxHeartbeats 40000000 in
theorem rmMs (l : Launch) (Z : State) (a0 : Array Value) (hw : ∀ d ∈ tables_1, d.before a0 Z = true) (ws : List Jvm.Cond) (ua ub : Addr) (a1 b1 b2 c1 c2 : Addr) (k1 k2 : ClassId) (cs ds : List Int32) (z0 : Int32) (h0 : Heap) (n0 : Nat) (Z0 : n0 ≤ h0.size) (hl : l.stackTraces = true) (T1 : Sta Z Z.heap "java/lang/Throwable" "UNASSIGNED_STACK" "[Ljava/lang/StackTraceElement;" (.ref ua)) (T2 : Sta Z Z.heap "java/lang/Throwable" "SUPPRESSED_SENTINEL" "Ljava/util/List;" (.ref ub)) (E1 : Exa Z h0 a1 "kakehashi/cli/Arguments$Option") (F1 : Fld Z h0 a1 "kakehashi/cli/Arguments$Option" "name" "Ljava/lang/String;" (.ref b1)) (F2 : Fld Z h0 a1 "kakehashi/cli/Arguments$Option" "value" "Ljava/lang/String;" (.ref b2)) (Sn0 : Exa Z h0 b1 "java/lang/String") (Sn1 : Fld Z h0 b1 "java/lang/String" "value" "[B" (.ref c1)) (Sn2 : Fld Z h0 b1 "java/lang/String" "coder" "B" (.int (0 : Int32))) (Sn3 : Arv Z h0 c1 k1 .byte (Int32.ofNat cs.length) (own_B cs) (.int (0 : Int32))) (Sv0 : Exa Z h0 b2 "java/lang/String") (Sv1 : Fld Z h0 b2 "java/lang/String" "value" "[B" (.ref c2)) (Sv2 : Fld Z h0 b2 "java/lang/String" "coder" "B" (.int (0 : Int32))) (Sv3 : Arv Z h0 c2 k2 .byte (Int32.ofNat ds.length) (own_B ds) (.int (0 : Int32))) (hcs : cs.length ≤ 3) (hds : ds.length ≤ 3) (O0 : OldL Z n0 h0) (S0 : Sta Z Z.heap "java/lang/String" "COMPACT_STRINGS" "Z" (.int z0)) (hz : ¬ z0 = (0 : Int32)) :
    MetFree l (⟨"kakehashi/cli/Arguments$Option", "missing", "()Lkakehashi/cli/UsageException;"⟩ : MethodName) (head1 (Jvm.Cond.code (⟨"kakehashi/cli/Arguments$Option", "missing", "()Lkakehashi/cli/UsageException;"⟩ : MethodName) prog_5_method_2_code 1 (some (.object "kakehashi/cli/UsageException")) :: ws) ({ frames := 7, cells := 8, slots := 2827, locals := 98 } : Room)) (fun a U => a = #[(.ref a1)] ∧ Z.Warmed39 U.vm ∧ U.heap = h0 ∧ CHv Z own_EL U.vm h0) (fun _ _ bl s _ => s.vm.MethodsKnown ∧ s.vm.FramesKnown bl) (fun _ U o U' => ∃ v L, o = .returned v ∧ QMs Z cs ds h0 n0 v U'.heap L ∧ CHr Z own_EL U.vm U.heap U'.vm U'.heap ∧ ReturnedEndW U o U' L ({ frames := 7, cells := 8, slots := 2827, locals := 98 } : Room).cells ({ frames := 7, cells := 8, slots := 2827, locals := 98 } : Room).slots) := by
  refine MetFree.of_bodySF (plainFor_of_name pn_kakehashi_cli_Arguments_Option) hisR ?_
  intro p e s m args below meth c s₁ Bd hml0 hP hK
  obtain ⟨rfl, hZ, hh, hI⟩ := hP
  have hx := Bd.exec
  have hby := Bd.bytes
  have hml : c.maxLocals = 1 := hml0
  have hown : s.vm.findClass "kakehashi/cli/Arguments$Option" = some m.cls := findClass_of_methodNamed Bd.named
  have hnm := (name_of_methodNamed Bd.named Bd.method).1
  have X0 : Stand p l e ({ frames := 7, cells := 8, slots := 2827, locals := 98 } : Room) s m #[(.ref a1)] below meth c s₁ [] 0 0 := Stand.of_body Bd
  have e0 : s₁.heap = h0 := by rw [← hh, Bd.state]; rfl
  have N0 := Fr.nil n0
  obtain ⟨hTK, hBelow⟩ := hK
  have pre0 : ∀ t, Steps p.tables e below (s₁.setTop (mkF m 0 #[.val (.ref a1)] [])) t → Steps p.tables e below (s₁.setTop (entryFrame m #[(.ref a1)] 1)) t := fun t kt => castTop (ef_rmMs m a1) kt
  have hA0 : (([] : List Value)).length + (own_B cs).length ≤ 16 := own_h0 hcs
  have hA1 : ([] ++ own_B cs).length + ([(Value.int (32 : Int32)), (Value.int (110 : Int32)), (Value.int (101 : Int32)), (Value.int (101 : Int32)), (Value.int (100 : Int32)), (Value.int (115 : Int32)), (Value.int (32 : Int32))] : List Value).length ≤ 16 := own_h1 hcs
  have hA2 : ([] ++ own_B cs ++ [(Value.int (32 : Int32)), (Value.int (110 : Int32)), (Value.int (101 : Int32)), (Value.int (101 : Int32)), (Value.int (100 : Int32)), (Value.int (115 : Int32)), (Value.int (32 : Int32))]).length + (own_B ds).length ≤ 16 := own_h2 hcs hds
  have hA3 : ([] ++ own_B cs ++ [(Value.int (32 : Int32)), (Value.int (110 : Int32)), (Value.int (101 : Int32)), (Value.int (101 : Int32)), (Value.int (100 : Int32)), (Value.int (115 : Int32)), (Value.int (32 : Int32))] ++ own_B ds).length ≤ 13 := own_h3 hcs hds
  have ht1 := own_t1 hA3
  have ht2 := own_t2 hA3
  have ht3 := own_t3 hA3
  obtain ⟨T21, h21, X21, e21, E21, A21, D21, Un21, st21⟩ := newO X0 hx hZ hown (hw _ (List.mem_of_getElem? (i := 47) rfl)) (hw _ (List.mem_of_getElem? (i := 48) rfl)) (hw _ (List.mem_of_getElem? (i := 49) rfl)) e0 (g := (mkF m 0 #[.val (.ref a1)] [])) rfl (hb hby d7_0) (by decide) (by decide)
  obtain ⟨b21, g21⟩ : ∃ z, z = h0.size := ⟨_, rfl⟩
  rw [← g21] at A21 D21 st21 Un21
  have ne22 : a1 ≠ b21 := Nat.ne_of_lt (Nat.lt_of_lt_of_le (E1).lt (Nat.le_of_eq g21.symm))
  have ne23 : b1 ≠ b21 := Nat.ne_of_lt (Nat.lt_of_lt_of_le (Sn0).lt (Nat.le_of_eq g21.symm))
  have ne24 : b2 ≠ b21 := Nat.ne_of_lt (Nat.lt_of_lt_of_le (Sv0).lt (Nat.le_of_eq g21.symm))
  have ne25 : c1 ≠ b21 := Nat.ne_of_lt (Nat.lt_of_lt_of_le (Sn3).lt (Nat.le_of_eq g21.symm))
  have ne26 : c2 ≠ b21 := Nat.ne_of_lt (Nat.lt_of_lt_of_le (Sv3).lt (Nat.le_of_eq g21.symm))
  have gz27 : n0 ≤ b21 := Nat.le_trans Z0 (Nat.le_of_eq g21.symm)
  have f29 := ((Keep.refl h0 [])).ext E21
  have f30 := (O0).ext E21
  have f31 := ((Keep.refl h0 [])).ext E21
  have f32 := (E1).ext E21
  have f33 := (F1).ext E21
  have f34 := (F2).ext E21
  have f35 := (Sn0).ext E21
  have f36 := (Sn1).ext E21
  have f37 := (Sn2).ext E21
  have f38 := (Sn3).ext E21
  have f39 := (Sv0).ext E21
  have f40 := (Sv1).ext E21
  have f41 := (Sv2).ext E21
  have f42 := (Sv3).ext E21
  have Zf43 : n0 ≤ h21.size := Nat.le_trans Z0 E21.1
  have Ut21 : Unt h21 b21 := Un21
  have F21_cause : Fld Z h21 b21 "java/lang/Throwable" "cause" "Ljava/lang/Throwable;" .null := D21 (Or.inl (hw _ (List.mem_of_getElem? (i := 183) rfl))) (ty := (.object "java/lang/Throwable")) (by decide)
  have F21_stackTrace : Fld Z h21 b21 "java/lang/Throwable" "stackTrace" "[Ljava/lang/StackTraceElement;" .null := D21 (Or.inl (hw _ (List.mem_of_getElem? (i := 186) rfl))) (ty := (.array (.object "java/lang/StackTraceElement"))) (by decide)
  have F21_suppressedExceptions : Fld Z h21 b21 "java/lang/Throwable" "suppressedExceptions" "Ljava/util/List;" .null := D21 (Or.inl (hw _ (List.mem_of_getElem? (i := 189) rfl))) (ty := (.object "java/util/List")) (by decide)
  have F21_detailMessage : Fld Z h21 b21 "java/lang/Throwable" "detailMessage" "Ljava/lang/String;" .null := D21 (Or.inl (hw _ (List.mem_of_getElem? (i := 213) rfl))) (ty := (.object "java/lang/String")) (by decide)
  have F21_backtrace : Fld Z h21 b21 "java/lang/Throwable" "backtrace" "Ljava/lang/Object;" .null := D21 (Or.inl (hw _ (List.mem_of_getElem? (i := 214) rfl))) (ty := (.object "java/lang/Object")) (by decide)
  have F21_depth : Fld Z h21 b21 "java/lang/Throwable" "depth" "I" (.int (0 : Int32)) := D21 (Or.inl (hw _ (List.mem_of_getElem? (i := 215) rfl))) (ty := .int) (by decide)
  have pre44 : ∀ t, Steps p.tables e below (T21.setTop (mkF m 3 #[.val (.ref a1)] [(.ref b21)])) t → Steps p.tables e below (s₁.setTop (entryFrame m #[(.ref a1)] 1)) t := fun t kt => pre0 t (st21 _ kt)
  have pre45 : ∀ t, Steps p.tables e below (T21.setTop (mkF m 4 #[.val (.ref a1)] [(.ref b21), (.ref b21)])) t → Steps p.tables e below (s₁.setTop (entryFrame m #[(.ref a1)] 1)) t := fun t kt => pre44 t (by
    refine XS.dup X21.here hx rfl (hb hby d7_3) rfl rfl ?_
    show Steps p.tables e below (T21.setTop (mkF m 4 #[.val (.ref a1)] [(.ref b21), (.ref b21)])) _
    exact kt)
  obtain ⟨T46, h46, X46, e46, E46, A46, D46, -, st46⟩ := newO X21 hx hZ hown (hw _ (List.mem_of_getElem? (i := 50) rfl)) (hw _ (List.mem_of_getElem? (i := 51) rfl)) (hw _ (List.mem_of_getElem? (i := 52) rfl)) e21 (g := (mkF m 4 #[.val (.ref a1)] [(.ref b21), (.ref b21)])) rfl (hb hby d7_4) (by decide) (by decide)
  obtain ⟨b46, g46⟩ : ∃ z, z = h21.size := ⟨_, rfl⟩
  rw [← g46] at A46 D46 st46
  have ne47 : a1 ≠ b46 := Nat.ne_of_lt (Nat.lt_of_lt_of_le (f32).lt (Nat.le_of_eq g46.symm))
  have ne48 : b1 ≠ b46 := Nat.ne_of_lt (Nat.lt_of_lt_of_le (f35).lt (Nat.le_of_eq g46.symm))
  have ne49 : b2 ≠ b46 := Nat.ne_of_lt (Nat.lt_of_lt_of_le (f39).lt (Nat.le_of_eq g46.symm))
  have ne50 : b21 ≠ b46 := Nat.ne_of_lt (Nat.lt_of_lt_of_le (A21).lt (Nat.le_of_eq g46.symm))
  have ne51 : c1 ≠ b46 := Nat.ne_of_lt (Nat.lt_of_lt_of_le (f38).lt (Nat.le_of_eq g46.symm))
  have ne52 : c2 ≠ b46 := Nat.ne_of_lt (Nat.lt_of_lt_of_le (f42).lt (Nat.le_of_eq g46.symm))
  have gz53 : n0 ≤ b46 := Nat.le_trans Zf43 (Nat.le_of_eq g46.symm)
  have f55 := (f29).ext E46
  have f56 := (f30).ext E46
  have f57 := (f31).ext E46
  have f58 := (f32).ext E46
  have f59 := (f33).ext E46
  have f60 := (f34).ext E46
  have f61 := (f35).ext E46
  have f62 := (f36).ext E46
  have f63 := (f37).ext E46
  have f64 := (f38).ext E46
  have f65 := (f39).ext E46
  have f66 := (f40).ext E46
  have f67 := (f41).ext E46
  have f68 := (f42).ext E46
  have f69 := (Ut21).ext E46
  have f70 := (A21).ext E46
  have f71 := (F21_cause).ext E46
  have f72 := (F21_stackTrace).ext E46
  have f73 := (F21_suppressedExceptions).ext E46
  have f74 := (F21_detailMessage).ext E46
  have f75 := (F21_backtrace).ext E46
  have f76 := (F21_depth).ext E46
  have Zf77 : n0 ≤ h46.size := Nat.le_trans Zf43 E46.1
  have F46_value : Fld Z h46 b46 "java/lang/AbstractStringBuilder" "value" "[B" .null := D46 (Or.inl (hw _ (List.mem_of_getElem? (i := 65) rfl))) (ty := (.array .byte)) (by decide)
  have F46_coder : Fld Z h46 b46 "java/lang/AbstractStringBuilder" "coder" "B" (.int (0 : Int32)) := D46 (Or.inl (hw _ (List.mem_of_getElem? (i := 67) rfl))) (ty := .byte) (by decide)
  have F46_count : Fld Z h46 b46 "java/lang/AbstractStringBuilder" "count" "I" (.int (0 : Int32)) := D46 (Or.inl (hw _ (List.mem_of_getElem? (i := 90) rfl))) (ty := .int) (by decide)
  have pre78 : ∀ t, Steps p.tables e below (T46.setTop (mkF m 7 #[.val (.ref a1)] [(.ref b46), (.ref b21), (.ref b21)])) t → Steps p.tables e below (s₁.setTop (entryFrame m #[(.ref a1)] 1)) t := fun t kt => pre45 t (st46 _ kt)
  have pre79 : ∀ t, Steps p.tables e below (T46.setTop (mkF m 8 #[.val (.ref a1)] [(.ref b46), (.ref b46), (.ref b21), (.ref b21)])) t → Steps p.tables e below (s₁.setTop (entryFrame m #[(.ref a1)] 1)) t := fun t kt => pre78 t (by
    refine XS.dup X46.here hx rfl (hb hby d7_7) rfl rfl ?_
    show Steps p.tables e below (T46.setTop (mkF m 8 #[.val (.ref a1)] [(.ref b46), (.ref b46), (.ref b21), (.ref b21)])) _
    exact kt)
  obtain ⟨_, _, ⟨T80, L80, k80, n80⟩, -, X80, ⟨Lc80, hQ80, l80, y80, z80⟩, st80⟩ := X46.specialBack hx (y := (⟨"java/lang/StringBuilder", "<init>", "()V"⟩ : MethodName)) rfl hown (mvT hZ (hw _ (List.mem_of_getElem? (i := 53) rfl))) (mvT hZ (hw _ (List.mem_of_getElem? (i := 54) rfl))) (mvT hZ (hw _ (List.mem_of_getElem? (i := 55) rfl))) (by decide) (backOf (W := 3) (rmBI l Z a0 hw [] b46 _ _ z0 h46 n0 Zf77 A46 gz53 F46_value F46_coder F46_count f56 S0 hz) hZ (hw _ (List.mem_of_getElem? (i := 55) rfl)) (hw _ (List.mem_of_getElem? (i := 52) rfl)) (by decide) (by decide)) (g := (mkF m 8 #[.val (.ref a1)] [(.ref b46), (.ref b46), (.ref b21), (.ref b21)])) rfl (by rw [hml]; rfl) (Steps.refl _) (a := b46) (argsL := []) (rest := [(.ref b46), (.ref b21), (.ref b21)]) (lenOf pd__28_29V rfl) rfl (by show 2 * 0 + _ ≤ _; exact Nat.le_of_eq rfl) (hb hby d7_8) (fun _ _ => ⟨rfl, e46, (by decide : 2 + 1 ≤ _), (by decide : 10 + 16 ≤ _)⟩)
  dsimp only [Pt.U, Pt.locs, Pt.cells, Pt.slots] at X80 l80 y80 z80 st80 hQ80
  subst l80 y80 z80
  obtain ⟨rfl, N80q, K80, d80, kd80, gd80, sd80, Fv80, Fc80, Fn80, Va80⟩ := hQ80
  have N80 := Fr.app N0 N80q
  have ne81 : a1 ≠ d80 := Nat.ne_of_lt (Nat.lt_of_lt_of_le (f58).lt sd80)
  have ne82 : b1 ≠ d80 := Nat.ne_of_lt (Nat.lt_of_lt_of_le (f61).lt sd80)
  have ne83 : b2 ≠ d80 := Nat.ne_of_lt (Nat.lt_of_lt_of_le (f65).lt sd80)
  have ne84 : b21 ≠ d80 := Nat.ne_of_lt (Nat.lt_of_lt_of_le (f70).lt sd80)
  have ne85 : b46 ≠ d80 := Nat.ne_of_lt (Nat.lt_of_lt_of_le (A46).lt sd80)
  have ne86 : c1 ≠ d80 := Nat.ne_of_lt (Nat.lt_of_lt_of_le (f64).lt sd80)
  have ne87 : c2 ≠ d80 := Nat.ne_of_lt (Nat.lt_of_lt_of_le (f68).lt sd80)
  have sz88 := Nat.le_trans (f57).1 sd80
  have sy89 := Nat.le_trans (f55).1 sd80
  have f90 := (f55).trans K80 (own_all1 (Or.inr (Nat.le_trans (f29).1 (Nat.le_of_eq g46.symm))))
  have f91 := (f56).keep K80 (own_all1 gz53)
  have f92 := (f57).trans K80 (own_all1 ((Or.inr (Nat.le_trans (f31).1 (Nat.le_of_eq g46.symm)))))
  have f93 := (f58).keep K80
  have f94 := (f59).keep K80 (own_notin1 ne47)
  have f95 := (f60).keep K80 (own_notin1 ne47)
  have f96 := (f61).keep K80
  have f97 := (f62).keep K80 (own_notin1 ne48)
  have f98 := (f63).keep K80 (own_notin1 ne48)
  have f99 := (f64).keep K80 (own_notin1 ne51)
  have f100 := (f65).keep K80
  have f101 := (f66).keep K80 (own_notin1 ne49)
  have f102 := (f67).keep K80 (own_notin1 ne49)
  have f103 := (f68).keep K80 (own_notin1 ne52)
  have f104 := (f69).keep K80 (own_notin1 ne50)
  have f105 := (f70).keep K80
  have f106 := (f71).keep K80 (own_notin1 ne50)
  have f107 := (f72).keep K80 (own_notin1 ne50)
  have f108 := (f73).keep K80 (own_notin1 ne50)
  have f109 := (f74).keep K80 (own_notin1 ne50)
  have f110 := (f75).keep K80 (own_notin1 ne50)
  have f111 := (f76).keep K80 (own_notin1 ne50)
  have f112 := (A46).keep K80
  have Zf113 : n0 ≤ T80.heap.size := Nat.le_trans Zf77 (K80).1
  have pre114 : ∀ t, Steps p.tables e below (T80.setTop (mkF m 11 #[.val (.ref a1)] [(.ref b46), (.ref b21), (.ref b21)])) t → Steps p.tables e below (s₁.setTop (entryFrame m #[(.ref a1)] 1)) t := fun t kt => pre79 t (st80.trans kt)
  have Fz115 : Fld Z T80.heap b46 "java/lang/AbstractStringBuilder" "count" "I" (.int (Int32.ofNat ([] : List Value).length)) := Fn80
  have Vz115 : Arv Z T80.heap d80 kd80 .byte (16 : Int32) (([] : List Value) ++ own_Z16.drop ([] : List Value).length) (.int (0 : Int32)) := Va80
  have pre116 : ∀ t, Steps p.tables e below (T80.setTop (mkF m 12 #[.val (.ref a1)] [(.ref a1), (.ref b46), (.ref b21), (.ref b21)])) t → Steps p.tables e below (s₁.setTop (entryFrame m #[(.ref a1)] 1)) t := fun t kt => pre114 t (by
    refine XS.aloadN X80.here hx rfl (hb hby d7_11) rfl rfl ?_
    show Steps p.tables e below (T80.setTop (mkF m 12 #[.val (.ref a1)] [(.ref a1), (.ref b46), (.ref b21), (.ref b21)])) _
    exact kt)
  obtain ⟨T117, X117, e117, st117⟩ := getF X80 hx hZ hown (host := "") (Or.inl (hw _ (List.mem_of_getElem? (i := 38) rfl))) Via.refl rfl f94 (g := (mkF m 12 #[.val (.ref a1)] [(.ref a1), (.ref b46), (.ref b21), (.ref b21)])) rfl rfl (hb hby d7_12)
  have pre118 : ∀ t, Steps p.tables e below (T117.setTop (mkF m 15 #[.val (.ref a1)] [(.ref b1), (.ref b46), (.ref b21), (.ref b21)])) t → Steps p.tables e below (s₁.setTop (entryFrame m #[(.ref a1)] 1)) t := fun t kt => pre116 t (st117 _ kt)
  obtain ⟨cq119, kq119, q119a, q119b, q119c⟩ := isOf hZ e117 (f112)
  obtain ⟨_, _, ⟨T119, L119, k119, n119⟩, -, X119, ⟨Lc119, hQ119, l119, y119, z119⟩, st119⟩ := X117.virtualBack hx (y := (⟨"java/lang/StringBuilder", "append", "(Ljava/lang/String;)Ljava/lang/StringBuilder;"⟩ : MethodName)) (z := (⟨"java/lang/StringBuilder", "append", "(Ljava/lang/String;)Ljava/lang/StringBuilder;"⟩ : MethodName)) hown (mvT hZ (hw _ (List.mem_of_getElem? (i := 68) rfl))) (mvT hZ (hw _ (List.mem_of_getElem? (i := 69) rfl))) (notFace_of_selects (args := #[]) (mvT hZ (hw _ (List.mem_of_getElem? (i := 71) rfl)))) (mvT hZ (hw _ (List.mem_of_getElem? (i := 71) rfl))) (mvT hZ (hw _ (List.mem_of_getElem? (i := 70) rfl))) (by decide) (backOf (W := 2) (rmSa l Z a0 hw [] b46 b1 c1 d80 _ _ _ _ (Int32.ofNat ([] : List Value).length) (Int32.ofNat cs.length) z0 T80.heap n0 Zf113 f112 gz53 Fv80 Fc80 Fz115 Vz115 (own_zlen ([] : List Value) (Nat.le_trans (Nat.le_add_right _ _) hA0)) gd80 (Ne.symm ne85) ne48 ne51 f96 f97 f98 f99 (own_pre (A := ([] : List Value)) rfl (own_len cs) hA0) f91 S0 hz) hZ (hw _ (List.mem_of_getElem? (i := 72) rfl)) (hw _ (List.mem_of_getElem? (i := 52) rfl)) (by decide) (by decide)) q119a q119c (g := (mkF m 15 #[.val (.ref a1)] [(.ref b1), (.ref b46), (.ref b21), (.ref b21)])) rfl (by rw [hml]; rfl) (Steps.refl _) (argsL := [(.ref b1)]) (rest := [(.ref b21), (.ref b21)]) (lenOf pd__28Ljava_2flang_2fString_3b_29Ljava_2flang_2fStringBuilder_3b rfl) rfl (by show 2 * 0 + _ ≤ _; exact Nat.le_of_eq rfl) (hb hby d7_15) (fun _ _ => ⟨rfl, e117, (by decide : 3 + 0 ≤ _), (by decide : 26 + 0 ≤ _)⟩)
  dsimp only [Pt.U, Pt.locs, Pt.cells, Pt.slots] at X119 l119 y119 z119 st119 hQ119
  subst l119 y119 z119
  obtain ⟨rfl, N119q, K119, Fv119, Fc119, Fn119, Va119⟩ := hQ119
  have N119 := Fr.app N80 N119q
  have f120 := (f90).trans K119 (own_all2 (Or.inr (Nat.le_trans (f29).1 (Nat.le_of_eq g46.symm))) (Or.inr sy89))
  have f121 := (f91).keep K119 (own_all2 gz53 gd80)
  have f122 := (f92).trans K119 (own_all2 ((Or.inr (Nat.le_trans (f31).1 (Nat.le_of_eq g46.symm)))) (Or.inr sz88))
  have f123 := (f93).keep K119
  have f124 := (f94).keep K119 (own_notin2 ne47 ne81)
  have f125 := (f95).keep K119 (own_notin2 ne47 ne81)
  have f126 := (f96).keep K119
  have f127 := (f97).keep K119 (own_notin2 ne48 ne82)
  have f128 := (f98).keep K119 (own_notin2 ne48 ne82)
  have f129 := (f99).keep K119 (own_notin2 ne51 ne86)
  have f130 := (f100).keep K119
  have f131 := (f101).keep K119 (own_notin2 ne49 ne83)
  have f132 := (f102).keep K119 (own_notin2 ne49 ne83)
  have f133 := (f103).keep K119 (own_notin2 ne52 ne87)
  have f134 := (f104).keep K119 (own_notin2 ne50 ne84)
  have f135 := (f105).keep K119
  have f136 := (f106).keep K119 (own_notin2 ne50 ne84)
  have f137 := (f107).keep K119 (own_notin2 ne50 ne84)
  have f138 := (f108).keep K119 (own_notin2 ne50 ne84)
  have f139 := (f109).keep K119 (own_notin2 ne50 ne84)
  have f140 := (f110).keep K119 (own_notin2 ne50 ne84)
  have f141 := (f111).keep K119 (own_notin2 ne50 ne84)
  have f142 := (f112).keep K119
  have Zf143 : n0 ≤ T119.heap.size := Nat.le_trans Zf113 (K119).1
  have Fq119 : Fld Z T119.heap b46 "java/lang/AbstractStringBuilder" "count" "I" (.int (Int32.ofNat ([] ++ own_B cs).length)) := own_fcnt Fn119 (own_cnt (A := ([] : List Value)) (vs := (own_B cs)) (n1 := Int32.ofNat ([] : List Value).length) (l1 := (Int32.ofNat cs.length)) rfl (own_len cs))
  have qo119 := own_out (A := ([] : List Value)) (vs := (own_B cs)) (Z := own_Z16) (n1 := Int32.ofNat ([] : List Value).length) (l1 := (Int32.ofNat cs.length)) rfl (own_len cs) hA0
  have Vq119 : Arv Z T119.heap d80 kd80 .byte (16 : Int32) (([] ++ own_B cs) ++ own_Z16.drop ([] ++ own_B cs).length) (.int (0 : Int32)) := own_toarv Va119 qo119
  have pre144 : ∀ t, Steps p.tables e below (T119.setTop (mkF m 18 #[.val (.ref a1)] [(.ref b46), (.ref b21), (.ref b21)])) t → Steps p.tables e below (s₁.setTop (entryFrame m #[(.ref a1)] 1)) t := fun t kt => pre118 t (st119.trans kt)
  have sf145 : ∀ y ∈ ([] : List Addr), Safe Z own_EL s.vm h0 y := sf0
  have ch145 : CHr Z own_EL s.vm h0 s.vm T119.heap := CHr.trans (CHr.refl hI) (CHr.keep f120 sf145 ((CHr.refl hI)).1)
  have sa146 : Safe Z own_EL s.vm T119.heap b21 := own_safe f120 sf145 ((CHr.refl hI)).1 ((Nat.le_trans ((Keep.refl h0 [])).1 (Nat.le_of_eq g21.symm)))
  have sa147 : Safe Z own_EL s.vm T119.heap b46 := own_safe f120 sf145 ((CHr.refl hI)).1 ((Nat.le_trans (f29).1 (Nat.le_of_eq g46.symm)))
  have sa148 : Safe Z own_EL s.vm T119.heap d80 := own_safe f120 sf145 ((CHr.refl hI)).1 (sy89)
  obtain ⟨a149, T149, h149, k149, bb149, kk149, X149, e149, E149, hS149, hk149, hZ149, hO149, A149, Fc149, Fv149, Vv149, -, -, hC149, Lt149, hne149, st149⟩ := ldcCH (s := s) (vm0 := s.vm) X119 hx hZ hown (hw _ (List.mem_of_getElem? (i := 116) rfl)) (own_wS hw) rfl ((State.WarmedH.refl s).since 0) (Nat.zero_le _) (own_EW hw) (by decide) (ch145).1 (vs := [(.int (32 : Int32)), (.int (110 : Int32)), (.int (101 : Int32)), (.int (101 : Int32)), (.int (100 : Int32)), (.int (115 : Int32)), (.int (32 : Int32))]) (z := (7 : Int32)) ⟨by decide, by decide⟩ (by decide) rfl (g := (mkF m 18 #[.val (.ref a1)] [(.ref b46), (.ref b21), (.ref b21)])) rfl (hb hby d7_18) (n := 28) (by decide) (by decide) (by decide) (by decide)
  have f150 := ((Keep.refl T119.heap [b21, b46, d80])).ext E149
  have f151 := (f121).ext E149
  have f152 := (f122).ext E149
  have f153 := (f123).ext E149
  have f154 := (f124).ext E149
  have f155 := (f125).ext E149
  have f156 := (f126).ext E149
  have f157 := (f127).ext E149
  have f158 := (f128).ext E149
  have f159 := (f129).ext E149
  have f160 := (f130).ext E149
  have f161 := (f131).ext E149
  have f162 := (f132).ext E149
  have f163 := (f133).ext E149
  have f164 := (f134).ext E149
  have f165 := (f135).ext E149
  have f166 := (f136).ext E149
  have f167 := (f137).ext E149
  have f168 := (f138).ext E149
  have f169 := (f139).ext E149
  have f170 := (f140).ext E149
  have f171 := (f141).ext E149
  have f172 := (f142).ext E149
  have f173 := (Fv119).ext E149
  have f174 := (Fc119).ext E149
  have f175 := (Fq119).ext E149
  have f176 := (Vq119).ext E149
  have Zf177 : n0 ≤ h149.size := Nat.le_trans Zf143 E149.1
  have ch178 : CHr Z own_EL s.vm h0 T149.vm h149 := CHr.trans ch145 hC149
  have sa179 : Safe Z own_EL T149.vm h149 b21 := CHr.safe hC149 (f135).lt sa146
  have sa180 : Safe Z own_EL T149.vm h149 b46 := CHr.safe hC149 (f142).lt sa147
  have sa181 : Safe Z own_EL T149.vm h149 d80 := CHr.safe hC149 (Vq119).lt sa148
  have pre182 : ∀ t, Steps p.tables e below (T149.setTop (mkF m 20 #[.val (.ref a1)] [(.ref a149), (.ref b46), (.ref b21), (.ref b21)])) t → Steps p.tables e below (s₁.setTop (entryFrame m #[(.ref a1)] 1)) t := fun t kt => pre144 t (st149 _ kt)
  obtain ⟨cq183, kq183, q183a, q183b, q183c⟩ := isOf hZ149 e149 (f172)
  obtain ⟨_, _, ⟨T183, L183, k183, n183⟩, -, X183, ⟨Lc183, hQ183, l183, y183, z183⟩, st183⟩ := X149.virtualBack hx (y := (⟨"java/lang/StringBuilder", "append", "(Ljava/lang/String;)Ljava/lang/StringBuilder;"⟩ : MethodName)) (z := (⟨"java/lang/StringBuilder", "append", "(Ljava/lang/String;)Ljava/lang/StringBuilder;"⟩ : MethodName)) hO149 (mvT hZ149 (hw _ (List.mem_of_getElem? (i := 68) rfl))) (mvT hZ149 (hw _ (List.mem_of_getElem? (i := 69) rfl))) (notFace_of_selects (args := #[]) (mvT hZ149 (hw _ (List.mem_of_getElem? (i := 71) rfl)))) (mvT hZ149 (hw _ (List.mem_of_getElem? (i := 71) rfl))) (mvT hZ149 (hw _ (List.mem_of_getElem? (i := 70) rfl))) (by decide) (backOf (W := 2) (rmSa l Z a0 hw [] b46 a149 bb149 d80 _ _ _ _ (Int32.ofNat ([] ++ own_B cs).length) (7 : Int32) z0 h149 n0 Zf177 f172 gz53 f173 f174 f175 f176 (own_zlen ([] ++ own_B cs) (Nat.le_trans (Nat.le_add_right _ _) hA1)) gd80 (Ne.symm ne85) (Ne.symm (hne149 _ sa180).1) (Ne.symm (hne149 _ sa180).2) A149 Fv149 Fc149 Vv149 (own_pre (A := ([] ++ own_B cs)) rfl (rfl) hA1) f151 S0 hz) hZ149 (hw _ (List.mem_of_getElem? (i := 72) rfl)) (hw _ (List.mem_of_getElem? (i := 52) rfl)) (by decide) (by decide)) q183a q183c (g := (mkF m 20 #[.val (.ref a1)] [(.ref a149), (.ref b46), (.ref b21), (.ref b21)])) rfl (by rw [hml]; rfl) (Steps.refl _) (argsL := [(.ref a149)]) (rest := [(.ref b21), (.ref b21)]) (lenOf pd__28Ljava_2flang_2fString_3b_29Ljava_2flang_2fStringBuilder_3b rfl) rfl (by show 2 * 0 + _ ≤ _; exact Nat.le_of_eq rfl) (hb hby d7_20) (fun _ _ => ⟨rfl, e149, (by decide : 5 + 0 ≤ _), (by decide : 58 + 0 ≤ _)⟩)
  dsimp only [Pt.U, Pt.locs, Pt.cells, Pt.slots] at X183 l183 y183 z183 st183 hQ183
  subst l183 y183 z183
  obtain ⟨rfl, N183q, K183, Fv183, Fc183, Fn183, Va183⟩ := hQ183
  have N183 := Fr.app N119 N183q
  have f184 := ((Keep.refl h149 [b21, b46, d80])).trans K183 (own_all2 (Or.inl (by simp)) (Or.inl (by simp)))
  have f185 := (f151).keep K183 (own_all2 gz53 gd80)
  have f186 := (f152).trans K183 (own_all2 ((Or.inr (Nat.le_trans (f31).1 (Nat.le_of_eq g46.symm)))) (Or.inr sz88))
  have f187 := (f153).keep K183
  have f188 := (f154).keep K183 (own_notin2 ne47 ne81)
  have f189 := (f155).keep K183 (own_notin2 ne47 ne81)
  have f190 := (f156).keep K183
  have f191 := (f157).keep K183 (own_notin2 ne48 ne82)
  have f192 := (f158).keep K183 (own_notin2 ne48 ne82)
  have f193 := (f159).keep K183 (own_notin2 ne51 ne86)
  have f194 := (f160).keep K183
  have f195 := (f161).keep K183 (own_notin2 ne49 ne83)
  have f196 := (f162).keep K183 (own_notin2 ne49 ne83)
  have f197 := (f163).keep K183 (own_notin2 ne52 ne87)
  have f198 := (f164).keep K183 (own_notin2 ne50 ne84)
  have f199 := (f165).keep K183
  have f200 := (f166).keep K183 (own_notin2 ne50 ne84)
  have f201 := (f167).keep K183 (own_notin2 ne50 ne84)
  have f202 := (f168).keep K183 (own_notin2 ne50 ne84)
  have f203 := (f169).keep K183 (own_notin2 ne50 ne84)
  have f204 := (f170).keep K183 (own_notin2 ne50 ne84)
  have f205 := (f171).keep K183 (own_notin2 ne50 ne84)
  have f206 := (f172).keep K183
  have f207 := (A149).keep K183
  have f208 := (Fc149).keep K183 (own_notin2 (Ne.symm (hne149 _ sa180).1) (Ne.symm (hne149 _ sa181).1))
  have f209 := (Fv149).keep K183 (own_notin2 (Ne.symm (hne149 _ sa180).1) (Ne.symm (hne149 _ sa181).1))
  have f210 := (Vv149).keep K183 (own_notin2 (Ne.symm (hne149 _ sa180).2) (Ne.symm (hne149 _ sa181).2))
  have Zf211 : n0 ≤ T183.heap.size := Nat.le_trans Zf177 (K183).1
  have Kf211 : k149 ≤ T183.heap.size := Nat.le_trans hk149 (K183).1
  have Fq183 : Fld Z T183.heap b46 "java/lang/AbstractStringBuilder" "count" "I" (.int (Int32.ofNat ([] ++ own_B cs ++ [(Value.int (32 : Int32)), (Value.int (110 : Int32)), (Value.int (101 : Int32)), (Value.int (101 : Int32)), (Value.int (100 : Int32)), (Value.int (115 : Int32)), (Value.int (32 : Int32))]).length)) := own_fcnt Fn183 (own_cnt (A := ([] ++ own_B cs)) (vs := [(Value.int (32 : Int32)), (Value.int (110 : Int32)), (Value.int (101 : Int32)), (Value.int (101 : Int32)), (Value.int (100 : Int32)), (Value.int (115 : Int32)), (Value.int (32 : Int32))]) (n1 := Int32.ofNat ([] ++ own_B cs).length) (l1 := (7 : Int32)) rfl (rfl))
  have qo183 := own_out (A := ([] ++ own_B cs)) (vs := [(Value.int (32 : Int32)), (Value.int (110 : Int32)), (Value.int (101 : Int32)), (Value.int (101 : Int32)), (Value.int (100 : Int32)), (Value.int (115 : Int32)), (Value.int (32 : Int32))]) (Z := own_Z16) (n1 := Int32.ofNat ([] ++ own_B cs).length) (l1 := (7 : Int32)) rfl (rfl) hA1
  have Vq183 : Arv Z T183.heap d80 kd80 .byte (16 : Int32) (([] ++ own_B cs ++ [(Value.int (32 : Int32)), (Value.int (110 : Int32)), (Value.int (101 : Int32)), (Value.int (101 : Int32)), (Value.int (100 : Int32)), (Value.int (115 : Int32)), (Value.int (32 : Int32))]) ++ own_Z16.drop ([] ++ own_B cs ++ [(Value.int (32 : Int32)), (Value.int (110 : Int32)), (Value.int (101 : Int32)), (Value.int (101 : Int32)), (Value.int (100 : Int32)), (Value.int (115 : Int32)), (Value.int (32 : Int32))]).length) (.int (0 : Int32)) := own_toarv Va183 qo183
  have pre212 : ∀ t, Steps p.tables e below (T183.setTop (mkF m 23 #[.val (.ref a1)] [(.ref b46), (.ref b21), (.ref b21)])) t → Steps p.tables e below (s₁.setTop (entryFrame m #[(.ref a1)] 1)) t := fun t kt => pre182 t (st183.trans kt)
  have pre213 : ∀ t, Steps p.tables e below (T183.setTop (mkF m 24 #[.val (.ref a1)] [(.ref a1), (.ref b46), (.ref b21), (.ref b21)])) t → Steps p.tables e below (s₁.setTop (entryFrame m #[(.ref a1)] 1)) t := fun t kt => pre212 t (by
    refine XS.aloadN X183.here hx rfl (hb hby d7_23) rfl rfl ?_
    show Steps p.tables e below (T183.setTop (mkF m 24 #[.val (.ref a1)] [(.ref a1), (.ref b46), (.ref b21), (.ref b21)])) _
    exact kt)
  obtain ⟨T214, X214, e214, st214⟩ := getF X183 hx hZ149 hO149 (host := "") (Or.inl (hw _ (List.mem_of_getElem? (i := 40) rfl))) Via.refl rfl f189 (g := (mkF m 24 #[.val (.ref a1)] [(.ref a1), (.ref b46), (.ref b21), (.ref b21)])) rfl rfl (hb hby d7_24)
  have pre215 : ∀ t, Steps p.tables e below (T214.setTop (mkF m 27 #[.val (.ref a1)] [(.ref b2), (.ref b46), (.ref b21), (.ref b21)])) t → Steps p.tables e below (s₁.setTop (entryFrame m #[(.ref a1)] 1)) t := fun t kt => pre213 t (st214 _ kt)
  obtain ⟨cq216, kq216, q216a, q216b, q216c⟩ := isOf hZ149 e214 (f206)
  obtain ⟨_, _, ⟨T216, L216, k216, n216⟩, -, X216, ⟨Lc216, hQ216, l216, y216, z216⟩, st216⟩ := X214.virtualBack hx (y := (⟨"java/lang/StringBuilder", "append", "(Ljava/lang/String;)Ljava/lang/StringBuilder;"⟩ : MethodName)) (z := (⟨"java/lang/StringBuilder", "append", "(Ljava/lang/String;)Ljava/lang/StringBuilder;"⟩ : MethodName)) hO149 (mvT hZ149 (hw _ (List.mem_of_getElem? (i := 68) rfl))) (mvT hZ149 (hw _ (List.mem_of_getElem? (i := 69) rfl))) (notFace_of_selects (args := #[]) (mvT hZ149 (hw _ (List.mem_of_getElem? (i := 71) rfl)))) (mvT hZ149 (hw _ (List.mem_of_getElem? (i := 71) rfl))) (mvT hZ149 (hw _ (List.mem_of_getElem? (i := 70) rfl))) (by decide) (backOf (W := 2) (rmSa l Z a0 hw [] b46 b2 c2 d80 _ _ _ _ (Int32.ofNat ([] ++ own_B cs ++ [(Value.int (32 : Int32)), (Value.int (110 : Int32)), (Value.int (101 : Int32)), (Value.int (101 : Int32)), (Value.int (100 : Int32)), (Value.int (115 : Int32)), (Value.int (32 : Int32))]).length) (Int32.ofNat ds.length) z0 T183.heap n0 Zf211 f206 gz53 Fv183 Fc183 Fq183 Vq183 (own_zlen ([] ++ own_B cs ++ [(Value.int (32 : Int32)), (Value.int (110 : Int32)), (Value.int (101 : Int32)), (Value.int (101 : Int32)), (Value.int (100 : Int32)), (Value.int (115 : Int32)), (Value.int (32 : Int32))]) (Nat.le_trans (Nat.le_add_right _ _) hA2)) gd80 (Ne.symm ne85) ne49 ne52 f194 f195 f196 f197 (own_pre (A := ([] ++ own_B cs ++ [(Value.int (32 : Int32)), (Value.int (110 : Int32)), (Value.int (101 : Int32)), (Value.int (101 : Int32)), (Value.int (100 : Int32)), (Value.int (115 : Int32)), (Value.int (32 : Int32))])) rfl (own_len ds) hA2) f185 S0 hz) hZ149 (hw _ (List.mem_of_getElem? (i := 72) rfl)) (hw _ (List.mem_of_getElem? (i := 52) rfl)) (by decide) (by decide)) q216a q216c (g := (mkF m 27 #[.val (.ref a1)] [(.ref b2), (.ref b46), (.ref b21), (.ref b21)])) rfl (by rw [hml]; rfl) (Steps.refl _) (argsL := [(.ref b2)]) (rest := [(.ref b21), (.ref b21)]) (lenOf pd__28Ljava_2flang_2fString_3b_29Ljava_2flang_2fStringBuilder_3b rfl) rfl (by show 2 * 0 + _ ≤ _; exact Nat.le_of_eq rfl) (hb hby d7_27) (fun _ _ => ⟨rfl, e214, (by decide : 5 + 0 ≤ _), (by decide : 58 + 0 ≤ _)⟩)
  dsimp only [Pt.U, Pt.locs, Pt.cells, Pt.slots] at X216 l216 y216 z216 st216 hQ216
  subst l216 y216 z216
  obtain ⟨rfl, N216q, K216, Fv216, Fc216, Fn216, Va216⟩ := hQ216
  have N216 := Fr.app N183 N216q
  have f217 := (f184).trans K216 (own_all2 (Or.inl (by simp)) (Or.inl (by simp)))
  have f218 := (f185).keep K216 (own_all2 gz53 gd80)
  have f219 := (f186).trans K216 (own_all2 ((Or.inr (Nat.le_trans (f31).1 (Nat.le_of_eq g46.symm)))) (Or.inr sz88))
  have f220 := (f187).keep K216
  have f221 := (f188).keep K216 (own_notin2 ne47 ne81)
  have f222 := (f189).keep K216 (own_notin2 ne47 ne81)
  have f223 := (f190).keep K216
  have f224 := (f191).keep K216 (own_notin2 ne48 ne82)
  have f225 := (f192).keep K216 (own_notin2 ne48 ne82)
  have f226 := (f193).keep K216 (own_notin2 ne51 ne86)
  have f227 := (f194).keep K216
  have f228 := (f195).keep K216 (own_notin2 ne49 ne83)
  have f229 := (f196).keep K216 (own_notin2 ne49 ne83)
  have f230 := (f197).keep K216 (own_notin2 ne52 ne87)
  have f231 := (f198).keep K216 (own_notin2 ne50 ne84)
  have f232 := (f199).keep K216
  have f233 := (f200).keep K216 (own_notin2 ne50 ne84)
  have f234 := (f201).keep K216 (own_notin2 ne50 ne84)
  have f235 := (f202).keep K216 (own_notin2 ne50 ne84)
  have f236 := (f203).keep K216 (own_notin2 ne50 ne84)
  have f237 := (f204).keep K216 (own_notin2 ne50 ne84)
  have f238 := (f205).keep K216 (own_notin2 ne50 ne84)
  have f239 := (f206).keep K216
  have f240 := (f207).keep K216
  have f241 := (f208).keep K216 (own_notin2 (Ne.symm (hne149 _ sa180).1) (Ne.symm (hne149 _ sa181).1))
  have f242 := (f209).keep K216 (own_notin2 (Ne.symm (hne149 _ sa180).1) (Ne.symm (hne149 _ sa181).1))
  have f243 := (f210).keep K216 (own_notin2 (Ne.symm (hne149 _ sa180).2) (Ne.symm (hne149 _ sa181).2))
  have Zf244 : n0 ≤ T216.heap.size := Nat.le_trans Zf211 (K216).1
  have Kf244 : k149 ≤ T216.heap.size := Nat.le_trans Kf211 (K216).1
  have Fq216 : Fld Z T216.heap b46 "java/lang/AbstractStringBuilder" "count" "I" (.int (Int32.ofNat ([] ++ own_B cs ++ [(Value.int (32 : Int32)), (Value.int (110 : Int32)), (Value.int (101 : Int32)), (Value.int (101 : Int32)), (Value.int (100 : Int32)), (Value.int (115 : Int32)), (Value.int (32 : Int32))] ++ own_B ds).length)) := own_fcnt Fn216 (own_cnt (A := ([] ++ own_B cs ++ [(Value.int (32 : Int32)), (Value.int (110 : Int32)), (Value.int (101 : Int32)), (Value.int (101 : Int32)), (Value.int (100 : Int32)), (Value.int (115 : Int32)), (Value.int (32 : Int32))])) (vs := (own_B ds)) (n1 := Int32.ofNat ([] ++ own_B cs ++ [(Value.int (32 : Int32)), (Value.int (110 : Int32)), (Value.int (101 : Int32)), (Value.int (101 : Int32)), (Value.int (100 : Int32)), (Value.int (115 : Int32)), (Value.int (32 : Int32))]).length) (l1 := (Int32.ofNat ds.length)) rfl (own_len ds))
  have qo216 := own_out (A := ([] ++ own_B cs ++ [(Value.int (32 : Int32)), (Value.int (110 : Int32)), (Value.int (101 : Int32)), (Value.int (101 : Int32)), (Value.int (100 : Int32)), (Value.int (115 : Int32)), (Value.int (32 : Int32))])) (vs := (own_B ds)) (Z := own_Z16) (n1 := Int32.ofNat ([] ++ own_B cs ++ [(Value.int (32 : Int32)), (Value.int (110 : Int32)), (Value.int (101 : Int32)), (Value.int (101 : Int32)), (Value.int (100 : Int32)), (Value.int (115 : Int32)), (Value.int (32 : Int32))]).length) (l1 := (Int32.ofNat ds.length)) rfl (own_len ds) hA2
  have Vq216 : Arv Z T216.heap d80 kd80 .byte (16 : Int32) (([] ++ own_B cs ++ [(Value.int (32 : Int32)), (Value.int (110 : Int32)), (Value.int (101 : Int32)), (Value.int (101 : Int32)), (Value.int (100 : Int32)), (Value.int (115 : Int32)), (Value.int (32 : Int32))] ++ own_B ds) ++ own_Z16.drop ([] ++ own_B cs ++ [(Value.int (32 : Int32)), (Value.int (110 : Int32)), (Value.int (101 : Int32)), (Value.int (101 : Int32)), (Value.int (100 : Int32)), (Value.int (115 : Int32)), (Value.int (32 : Int32))] ++ own_B ds).length) (.int (0 : Int32)) := own_toarv Va216 qo216
  have pre245 : ∀ t, Steps p.tables e below (T216.setTop (mkF m 30 #[.val (.ref a1)] [(.ref b46), (.ref b21), (.ref b21)])) t → Steps p.tables e below (s₁.setTop (entryFrame m #[(.ref a1)] 1)) t := fun t kt => pre215 t (st216.trans kt)
  obtain ⟨cq246, kq246, q246a, q246b, q246c⟩ := isOf hZ149 rfl (f239)
  obtain ⟨_, _, ⟨T246, L246, k246, n246⟩, -, X246, ⟨Lc246, hQ246, l246, y246, z246⟩, st246⟩ := X216.virtualBack hx (y := (⟨"java/lang/StringBuilder", "toString", "()Ljava/lang/String;"⟩ : MethodName)) (z := (⟨"java/lang/StringBuilder", "toString", "()Ljava/lang/String;"⟩ : MethodName)) hO149 (mvT hZ149 (hw _ (List.mem_of_getElem? (i := 117) rfl))) (mvT hZ149 (hw _ (List.mem_of_getElem? (i := 118) rfl))) (notFace_of_selects (args := #[]) (mvT hZ149 (hw _ (List.mem_of_getElem? (i := 120) rfl)))) (mvT hZ149 (hw _ (List.mem_of_getElem? (i := 120) rfl))) (mvT hZ149 (hw _ (List.mem_of_getElem? (i := 119) rfl))) (by decide) (backOf (W := 2) (rmTo l Z a0 hw [] b46 d80 _ _ _ z0 T216.heap n0 Zf244 f239 Fv216 Fc216 Fq216 Vq216 ht1 ht2 ht3 f218 S0 hz) hZ149 (hw _ (List.mem_of_getElem? (i := 121) rfl)) (hw _ (List.mem_of_getElem? (i := 52) rfl)) (by decide) (by decide)) q246a q246c (g := (mkF m 30 #[.val (.ref a1)] [(.ref b46), (.ref b21), (.ref b21)])) rfl (by rw [hml]; rfl) (Steps.refl _) (argsL := []) (rest := [(.ref b21), (.ref b21)]) (lenOf pd__28_29Ljava_2flang_2fString_3b rfl) rfl (by show 2 * 0 + _ ≤ _; exact Nat.le_of_eq rfl) (hb hby d7_30) (fun _ _ => ⟨rfl, rfl, (by decide : 5 + 2 ≤ _), (by decide : 58 + 17 ≤ _)⟩)
  dsimp only [Pt.U, Pt.locs, Pt.cells, Pt.slots] at X246 l246 y246 z246 st246 hQ246
  subst l246 y246 z246
  obtain ⟨b246, t246, kt246, rfl, N246q, K246, gb246, sb246, gt246, sg246, nt246, E246x, Fv246, Fc246, Va246⟩ := hQ246
  have N246 := Fr.app N216 N246q
  have ne247 : a1 ≠ b246 := Nat.ne_of_lt (Nat.lt_of_lt_of_le (f220).lt sb246)
  have ne248 : a149 ≠ b246 := Nat.ne_of_lt (Nat.lt_of_lt_of_le (f240).lt sb246)
  have ne249 : b1 ≠ b246 := Nat.ne_of_lt (Nat.lt_of_lt_of_le (f223).lt sb246)
  have ne250 : b2 ≠ b246 := Nat.ne_of_lt (Nat.lt_of_lt_of_le (f227).lt sb246)
  have ne251 : b21 ≠ b246 := Nat.ne_of_lt (Nat.lt_of_lt_of_le (f232).lt sb246)
  have ne252 : b46 ≠ b246 := Nat.ne_of_lt (Nat.lt_of_lt_of_le (f239).lt sb246)
  have ne253 : bb149 ≠ b246 := Nat.ne_of_lt (Nat.lt_of_lt_of_le (f243).lt sb246)
  have ne254 : c1 ≠ b246 := Nat.ne_of_lt (Nat.lt_of_lt_of_le (f226).lt sb246)
  have ne255 : c2 ≠ b246 := Nat.ne_of_lt (Nat.lt_of_lt_of_le (f230).lt sb246)
  have ne256 : d80 ≠ b246 := Nat.ne_of_lt (Nat.lt_of_lt_of_le (Vq216).lt sb246)
  have sz257 := Nat.le_trans (f219).1 sb246
  have sy258 := Nat.le_trans (f217).1 sb246
  have ne259 : a1 ≠ t246 := Nat.ne_of_lt (Nat.lt_of_lt_of_le (f220).lt sg246)
  have ne260 : a149 ≠ t246 := Nat.ne_of_lt (Nat.lt_of_lt_of_le (f240).lt sg246)
  have ne261 : b1 ≠ t246 := Nat.ne_of_lt (Nat.lt_of_lt_of_le (f223).lt sg246)
  have ne262 : b2 ≠ t246 := Nat.ne_of_lt (Nat.lt_of_lt_of_le (f227).lt sg246)
  have ne263 : b21 ≠ t246 := Nat.ne_of_lt (Nat.lt_of_lt_of_le (f232).lt sg246)
  have ne264 : b46 ≠ t246 := Nat.ne_of_lt (Nat.lt_of_lt_of_le (f239).lt sg246)
  have ne265 : bb149 ≠ t246 := Nat.ne_of_lt (Nat.lt_of_lt_of_le (f243).lt sg246)
  have ne266 : c1 ≠ t246 := Nat.ne_of_lt (Nat.lt_of_lt_of_le (f226).lt sg246)
  have ne267 : c2 ≠ t246 := Nat.ne_of_lt (Nat.lt_of_lt_of_le (f230).lt sg246)
  have ne268 : d80 ≠ t246 := Nat.ne_of_lt (Nat.lt_of_lt_of_le (Vq216).lt sg246)
  have sz269 := Nat.le_trans (f219).1 sg246
  have sy270 := Nat.le_trans (f217).1 sg246
  have f271 := (f217).trans K246 (own_all0 )
  have f272 := (f218).keep K246 (own_all0 )
  have f273 := (f219).trans K246 (own_all0 )
  have f274 := (f220).keep K246
  have f275 := (f221).keep K246 own_notin0
  have f276 := (f222).keep K246 own_notin0
  have f277 := (f223).keep K246
  have f278 := (f224).keep K246 own_notin0
  have f279 := (f225).keep K246 own_notin0
  have f280 := (f226).keep K246 own_notin0
  have f281 := (f227).keep K246
  have f282 := (f228).keep K246 own_notin0
  have f283 := (f229).keep K246 own_notin0
  have f284 := (f230).keep K246 own_notin0
  have f285 := (f231).keep K246 own_notin0
  have f286 := (f232).keep K246
  have f287 := (f233).keep K246 own_notin0
  have f288 := (f234).keep K246 own_notin0
  have f289 := (f235).keep K246 own_notin0
  have f290 := (f236).keep K246 own_notin0
  have f291 := (f237).keep K246 own_notin0
  have f292 := (f238).keep K246 own_notin0
  have f293 := (f239).keep K246
  have f294 := (f240).keep K246
  have f295 := (f241).keep K246 own_notin0
  have f296 := (f242).keep K246 own_notin0
  have f297 := (f243).keep K246 own_notin0
  have f298 := (Fv216).keep K246 own_notin0
  have f299 := (Fc216).keep K246 own_notin0
  have f300 := (Fq216).keep K246 own_notin0
  have f301 := (Vq216).keep K246 own_notin0
  have Zf302 : n0 ≤ T246.heap.size := Nat.le_trans Zf244 (K246).1
  have Kf302 : k149 ≤ T246.heap.size := Nat.le_trans Kf244 (K246).1
  have Vr246 : Arv Z T246.heap t246 kt246 .byte (Int32.ofNat (own_M cs ds).length) (own_B (own_M cs ds)) (.int (0 : Int32)) := own_final own_NB hA3 Va246
  have pre303 : ∀ t, Steps p.tables e below (T246.setTop (mkF m 33 #[.val (.ref a1)] [(.ref b246), (.ref b21), (.ref b21)])) t → Steps p.tables e below (s₁.setTop (entryFrame m #[(.ref a1)] 1)) t := fun t kt => pre245 t (st246.trans kt)
  obtain ⟨_, _, ⟨T304, L304, k304, n304⟩, -, X304, ⟨Lc304, hQ304, l304, y304, z304⟩, st304⟩ := X246.specialBack hx (y := (⟨"kakehashi/cli/UsageException", "<init>", "(Ljava/lang/String;)V"⟩ : MethodName)) rfl hO149 (mvT hZ149 (hw _ (List.mem_of_getElem? (i := 162) rfl))) (mvT hZ149 (hw _ (List.mem_of_getElem? (i := 163) rfl))) (mvT hZ149 (hw _ (List.mem_of_getElem? (i := 164) rfl))) (by decide) (backOfKL (W := 1) (rmUE l Z a0 hw [] b21 b246 ua ub _ _ _ _ T246.heap n0 Zf302 hl T1 T2 f286 gz27 f285 f287 f288 f289 f290 f291 f272) hZ149 (hw _ (List.mem_of_getElem? (i := 164) rfl)) (hw _ (List.mem_of_getElem? (i := 49) rfl)) (by decide) (by decide) (Vm.MethodsKnown.alikeC hS149.1.alike hTK) (Vm.FramesKnown.alikeC hS149.1.alike hBelow)) (g := (mkF m 33 #[.val (.ref a1)] [(.ref b246), (.ref b21), (.ref b21)])) rfl (by rw [hml]; rfl) (Steps.refl _) (a := b21) (argsL := [(.ref b246)]) (rest := [(.ref b21)]) (lenOf pd__28Ljava_2flang_2fString_3b_29V rfl) rfl (by show 2 * 0 + _ ≤ _; exact Nat.le_of_eq rfl) (hb hby d7_33) (fun _ _ => ⟨rfl, rfl, (by decide : 7 + 1 ≤ _), (by decide : 75 + 2752 ≤ _)⟩)
  dsimp only [Pt.U, Pt.locs, Pt.cells, Pt.slots] at X304 l304 y304 z304 st304 hQ304
  subst l304 y304 z304
  obtain ⟨rfl, N304q, K304, E304x, U304x, Fm304, Fc304⟩ := hQ304
  have N304 := Fr.app N246 N304q
  have f305 := (f271).trans K304 (own_all1 (Or.inl (by simp)))
  have f306 := (f272).keep K304 (own_all1 gz27)
  have f307 := (f273).trans K304 (own_all1 ((Or.inr (Nat.le_trans ((Keep.refl h0 [])).1 (Nat.le_of_eq g21.symm)))))
  have f308 := (f274).keep K304
  have f309 := (f275).keep K304 (own_notin1 ne22)
  have f310 := (f276).keep K304 (own_notin1 ne22)
  have f311 := (f277).keep K304
  have f312 := (f278).keep K304 (own_notin1 ne23)
  have f313 := (f279).keep K304 (own_notin1 ne23)
  have f314 := (f280).keep K304 (own_notin1 ne25)
  have f315 := (f281).keep K304
  have f316 := (f282).keep K304 (own_notin1 ne24)
  have f317 := (f283).keep K304 (own_notin1 ne24)
  have f318 := (f284).keep K304 (own_notin1 ne26)
  have f319 := (f286).keep K304
  have f320 := (f293).keep K304
  have f321 := (f294).keep K304
  have f322 := (f295).keep K304 (own_notin1 (Ne.symm (hne149 _ sa179).1))
  have f323 := (f296).keep K304 (own_notin1 (Ne.symm (hne149 _ sa179).1))
  have f324 := (f297).keep K304 (own_notin1 (Ne.symm (hne149 _ sa179).2))
  have f325 := (f298).keep K304 (own_notin1 (Ne.symm ne50))
  have f326 := (f299).keep K304 (own_notin1 (Ne.symm ne50))
  have f327 := (f300).keep K304 (own_notin1 (Ne.symm ne50))
  have f328 := (f301).keep K304 (own_notin1 (Ne.symm ne84))
  have f329 := (E246x).keep K304
  have f330 := (Fv246).keep K304 (own_notin1 (Ne.symm ne251))
  have f331 := (Fc246).keep K304 (own_notin1 (Ne.symm ne251))
  have f332 := (Vr246).keep K304 (own_notin1 (Ne.symm ne263))
  have Zf333 : n0 ≤ T304.heap.size := Nat.le_trans Zf302 (K304).1
  have Kf333 : k149 ≤ T304.heap.size := Nat.le_trans Kf302 (K304).1
  have pre334 : ∀ t, Steps p.tables e below (T304.setTop (mkF m 36 #[.val (.ref a1)] [(.ref b21)])) t → Steps p.tables e below (s₁.setTop (entryFrame m #[(.ref a1)] 1)) t := fun t kt => pre303 t (st304.trans kt)
  have sf336 : ∀ y ∈ ([b21, b46, d80] : List Addr), Safe Z own_EL T149.vm h149 y := (sfS sa179 (sfS sa180 (sfS sa181 sf0)))
  have ch336 : CHr Z own_EL s.vm h0 T149.vm T304.heap := CHr.trans ch178 (CHr.keep f305 sf336 (ch178).1)
  have sa337 : Safe Z own_EL T149.vm T304.heap b21 := Safe.keep f305 sf336 (ch178).1 sa179
  have sa338 : Safe Z own_EL T149.vm T304.heap b46 := Safe.keep f305 sf336 (ch178).1 sa180
  have sa339 : Safe Z own_EL T149.vm T304.heap d80 := Safe.keep f305 sf336 (ch178).1 sa181
  have sa340 : Safe Z own_EL T149.vm T304.heap b246 := own_safe f305 sf336 (ch178).1 (sy258)
  have sa341 : Safe Z own_EL T149.vm T304.heap t246 := own_safe f305 sf336 (ch178).1 (sy270)
  have hCf : CHr Z own_EL s.vm s.heap T304.vm T304.heap := by
    rw [hh]
    exact CHr.trans ch336 (CHv.at (s := s) (vm0 := T149.vm) X304 hZ149 (own_EW hw) (ch336).1)
  obtain ⟨fs, hr, hrun, hended, hRE⟩ := X304.leaveW hS149 (Kf333) (v := (some (.ref b21))) (fun h => by rw [Bd.returns] at h; cases h)
  refine ⟨_, _, pre334 _ ?_, hrun, hended, _, _, rfl, ?_, hCf, hRE.1, hRE.2.1, hRE.2.2.1, hRE.2.2.2.mono (by decide) (by decide)⟩
  · exact retOut X304 hx Bd.returns rfl (Or.inr (Or.inr (Or.inr (Or.inr ⟨rfl, rfl, rfl⟩)))) (hb hby d7_36) hr
  · show QMs Z cs ds h0 n0 _ T304.heap _
    exact ⟨_, _, _, _, rfl, N304, f307, f319, Fm304, f329, f330, f331, f332⟩
def QXa (Z : State) (cs ds : List Int32) (k : Nat) (h0 : Heap) (n0 : Nat) (v : Option Value) (h : Heap) (L : List Loc) : Prop := v = some (.int (own_exp cs ds k)) ∧ Fr n0 L ∧ Keep h0 h []
theorem ef_rmXa (m : MethodId) (x0 : Addr) (x1 : Addr) (x2 : Int32) : entryFrame m #[(.ref x0), (.ref x1), (.int x2)] 6 = mkF m 0 #[.val (.ref x0), .val (.ref x1), .val (.int x2), .unset, .unset, .unset] [] := by first | (simp [entryFrame, mkF, argsToLocals, Value.category]; done) | rfl
theorem d37_0 : decode method_4_code 0 = .ok (.aload_n 0, 1) := by decide +kernel
theorem d37_1 : decode method_4_code 1 = .ok (.invokevirtual 28, 3) := by decide +kernel
theorem d37_4 : decode method_4_code 4 = .ok (.istore_n 3, 1) := by decide +kernel
theorem d37_5 : decode method_4_code 5 = .ok (.iload_n 2, 1) := by decide +kernel
theorem d37_6 : decode method_4_code 6 = .ok (.iload_n 3, 1) := by decide +kernel
theorem d37_7 : decode method_4_code 7 = .ok (.if_icmp .ge 9, 3) := by decide +kernel
theorem d37_10 : decode method_4_code 10 = .ok (.aload_n 0, 1) := by decide +kernel
theorem d37_11 : decode method_4_code 11 = .ok (.iload_n 2, 1) := by decide +kernel
theorem pd__28I_29C : parseMethodDescriptor "(I)C" = some ⟨[.int], some .char⟩ := by decide +kernel
theorem d37_12 : decode method_4_code 12 = .ok (.invokevirtual 42, 3) := by decide +kernel
theorem d37_15 : decode method_4_code 15 = .ok (.ireturn, 1) := by decide +kernel
theorem d37_16 : decode method_4_code 16 = .ok (.iload_n 2, 1) := by decide +kernel
theorem d37_17 : decode method_4_code 17 = .ok (.iload_n 3, 1) := by decide +kernel
theorem d37_18 : decode method_4_code 18 = .ok (.isub, 1) := by decide +kernel
theorem d37_19 : decode method_4_code 19 = .ok (.istore 4, 2) := by decide +kernel
theorem d37_21 : decode method_4_code 21 = .ok (.iload 4, 2) := by decide +kernel
theorem d37_23 : decode method_4_code 23 = .ok (.bipush 7, 2) := by decide +kernel
theorem d37_25 : decode method_4_code 25 = .ok (.if_icmp .ge 11, 3) := by decide +kernel
theorem d37_28 : decode method_4_code 28 = .ok (.ldc 46, 2) := by decide +kernel
theorem d37_30 : decode method_4_code 30 = .ok (.iload 4, 2) := by decide +kernel
theorem d37_32 : decode method_4_code 32 = .ok (.invokevirtual 42, 3) := by decide +kernel
theorem d37_35 : decode method_4_code 35 = .ok (.ireturn, 1) := by decide +kernel
theorem d37_36 : decode method_4_code 36 = .ok (.iload 4, 2) := by decide +kernel
theorem d37_38 : decode method_4_code 38 = .ok (.bipush 7, 2) := by decide +kernel
theorem d37_40 : decode method_4_code 40 = .ok (.isub, 1) := by decide +kernel
theorem d37_41 : decode method_4_code 41 = .ok (.istore 5, 2) := by decide +kernel
theorem d37_43 : decode method_4_code 43 = .ok (.iload 5, 2) := by decide +kernel
theorem d37_45 : decode method_4_code 45 = .ok (.aload_n 1, 1) := by decide +kernel
theorem d37_46 : decode method_4_code 46 = .ok (.invokevirtual 28, 3) := by decide +kernel
theorem d37_49 : decode method_4_code 49 = .ok (.if_icmp .ge 10, 3) := by decide +kernel
theorem d37_52 : decode method_4_code 52 = .ok (.aload_n 1, 1) := by decide +kernel
theorem d37_53 : decode method_4_code 53 = .ok (.iload 5, 2) := by decide +kernel
theorem d37_55 : decode method_4_code 55 = .ok (.invokevirtual 42, 3) := by decide +kernel
theorem d37_58 : decode method_4_code 58 = .ok (.ireturn, 1) := by decide +kernel
theorem d37_59 : decode method_4_code 59 = .ok (.iconst (-1), 1) := by decide +kernel
theorem d37_60 : decode method_4_code 60 = .ok (.ireturn, 1) := by decide +kernel
set_option maxRecDepth 65536 in
set_option maxHeartbeats 40000000 in
theorem rmXa (l : Launch) (Z : State) (a0 : Array Value) (hw : ∀ d ∈ tables_1, d.before a0 Z = true) (ws : List Jvm.Cond) (b1 b2 c1 c2 : Addr) (k1 k2 : ClassId) (cs ds : List Int32) (k : Nat) (j z0 : Int32) (fm : Value) (h0 : Heap) (n0 : Nat) (Z0 : n0 ≤ h0.size) (Sn0 : Exa Z h0 b1 "java/lang/String") (Sn1 : Fld Z h0 b1 "java/lang/String" "value" "[B" (.ref c1)) (Sn2 : Fld Z h0 b1 "java/lang/String" "coder" "B" (.int (0 : Int32))) (Sn3 : Arv Z h0 c1 k1 .byte (Int32.ofNat cs.length) (own_B cs) (.int (0 : Int32))) (Sv0 : Exa Z h0 b2 "java/lang/String") (Sv1 : Fld Z h0 b2 "java/lang/String" "value" "[B" (.ref c2)) (Sv2 : Fld Z h0 b2 "java/lang/String" "coder" "B" (.int (0 : Int32))) (Sv3 : Arv Z h0 c2 k2 .byte (Int32.ofNat ds.length) (own_B ds) (.int (0 : Int32))) (hcs : cs.length ≤ 3) (hds : ds.length ≤ 3) (lcs : ∀ c ∈ cs, ¬ c < 0 ∧ ¬ (255 : Int32) < c) (lds : ∀ c ∈ ds, ¬ c < 0 ∧ ¬ (255 : Int32) < c) (hj : j = Int32.ofNat k) (hk : k ≤ 12) (O0 : OldL Z n0 h0) (S0 : Sta Z Z.heap "java/lang/String" "COMPACT_STRINGS" "Z" (.int z0)) (hz : ¬ z0 = (0 : Int32)) (S1 : Sta Z Z.heap "jdk/internal/util/Preconditions" "SIOOBE_FORMATTER" "Ljava/util/function/BiFunction;" fm) (hfm : fm.isRef = true) :
    MetFree l (⟨"kakehashi/cli/OptionMissingPinLaw", "expectedAt", "(Ljava/lang/String;Ljava/lang/String;I)I"⟩ : MethodName) (head1 (Jvm.Cond.code (⟨"kakehashi/cli/OptionMissingPinLaw", "expectedAt", "(Ljava/lang/String;Ljava/lang/String;I)I"⟩ : MethodName) method_4_code 6 (some .int) :: ws) ({ frames := 4, cells := 2, slots := 32, locals := 53 } : Room)) (fun a U => a = #[(.ref b1), (.ref b2), (.int j)] ∧ Z.Warmed39 U.vm ∧ U.heap = h0 ∧ CHv Z own_EL U.vm h0) (fun _ _ _ _ _ => True) (fun _ U o U' => ∃ v L, o = .returned v ∧ QXa Z cs ds k h0 n0 v U'.heap L ∧ CHr Z own_EL U.vm U.heap U'.vm U'.heap ∧ ReturnedEndW U o U' L ({ frames := 4, cells := 2, slots := 32, locals := 53 } : Room).cells ({ frames := 4, cells := 2, slots := 32, locals := 53 } : Room).slots) := by
  refine MetFree.of_bodySF (plainFor_of_name pn_kakehashi_cli_OptionMissingPinLaw) hisR ?_
  intro p e s m args below meth c s₁ Bd hml0 hP hK
  obtain ⟨rfl, hZ, hh, hI⟩ := hP
  have hx := Bd.exec
  have hby := Bd.bytes
  have hml : c.maxLocals = 6 := hml0
  have hown : s.vm.findClass "kakehashi/cli/OptionMissingPinLaw" = some m.cls := findClass_of_methodNamed Bd.named
  have hnm := (name_of_methodNamed Bd.named Bd.method).1
  have X0 : Stand p l e ({ frames := 4, cells := 2, slots := 32, locals := 53 } : Room) s m #[(.ref b1), (.ref b2), (.int j)] below meth c s₁ [] 0 0 := Stand.of_body Bd
  have e0 : s₁.heap = h0 := by rw [← hh, Bd.state]; rfl
  have N0 := Fr.nil n0
  have pre0 : ∀ t, Steps p.tables e below (s₁.setTop (mkF m 0 #[.val (.ref b1), .val (.ref b2), .val (.int j), .unset, .unset, .unset] [])) t → Steps p.tables e below (s₁.setTop (entryFrame m #[(.ref b1), (.ref b2), (.int j)] 6)) t := fun t kt => castTop (ef_rmXa m b1 b2 j) kt
  have hwc : ∀ d ∈ StrChars.Road.wordsChN, d.before a0 Z = true := fun d hd => hw d ((by decide +kernel : ∀ d ∈ StrChars.Road.wordsChN, d ∈ tables_1) d hd)
  by_cases c0_1 : k < cs.length
  · have pre21 : ∀ t, Steps p.tables e below (s₁.setTop (mkF m 1 #[.val (.ref b1), .val (.ref b2), .val (.int j), .unset, .unset, .unset] [(.ref b1)])) t → Steps p.tables e below (s₁.setTop (entryFrame m #[(.ref b1), (.ref b2), (.int j)] 6)) t := fun t kt => pre0 t (by
      refine XS.aloadN X0.here hx rfl (hb hby d37_0) rfl rfl ?_
      show Steps p.tables e below (s₁.setTop (mkF m 1 #[.val (.ref b1), .val (.ref b2), .val (.int j), .unset, .unset, .unset] [(.ref b1)])) _
      exact kt)
    obtain ⟨cq22, kq22, q22a, q22b, q22c⟩ := isOf hZ e0 (Sn0)
    obtain ⟨_, _, ⟨T22, L22, k22, n22⟩, -, X22, ⟨Lc22, hQ22, l22, y22, z22⟩, st22⟩ := X0.virtualBack hx (y := (⟨"java/lang/String", "length", "()I"⟩ : MethodName)) (z := (⟨"java/lang/String", "length", "()I"⟩ : MethodName)) hown (mvT hZ (hw _ (List.mem_of_getElem? (i := 224) rfl))) (mvT hZ (hw _ (List.mem_of_getElem? (i := 79) rfl))) (notFace_of_selects (args := #[]) (mvT hZ (hw _ (List.mem_of_getElem? (i := 81) rfl)))) (mvT hZ (hw _ (List.mem_of_getElem? (i := 81) rfl))) (mvT hZ (hw _ (List.mem_of_getElem? (i := 80) rfl))) (by decide) (backOf (W := 0) (rmLs l Z a0 hw [] b1 c1 _ _ z0 _ h0 n0 Z0 Sn0 Sn1 Sn2 Sn3 O0 S0 hz) hZ (hw _ (List.mem_of_getElem? (i := 82) rfl)) (hw _ (List.mem_of_getElem? (i := 6) rfl)) (by decide) (by decide)) q22a q22c (g := (mkF m 1 #[.val (.ref b1), .val (.ref b2), .val (.int j), .unset, .unset, .unset] [(.ref b1)])) rfl (by rw [hml]; rfl) (Steps.refl _) (argsL := []) (rest := []) (lenOf pd__28_29I rfl) rfl (by show 2 * 0 + _ ≤ _; exact Nat.le_of_eq rfl) (hb hby d37_1) (fun _ _ => ⟨rfl, e0, (by decide : 0 + 0 ≤ _), (by decide : 0 + 0 ≤ _)⟩)
    dsimp only [Pt.U, Pt.locs, Pt.cells, Pt.slots] at X22 l22 y22 z22 st22 hQ22
    subst l22 y22 z22
    obtain ⟨rfl, N22q, e22q⟩ := hQ22
    have N22 := Fr.app N0 N22q
    have pre23 : ∀ t, Steps p.tables e below (T22.setTop (mkF m 4 #[.val (.ref b1), .val (.ref b2), .val (.int j), .unset, .unset, .unset] [(.int (Int32.ofNat cs.length))])) t → Steps p.tables e below (s₁.setTop (entryFrame m #[(.ref b1), (.ref b2), (.int j)] 6)) t := fun t kt => pre21 t (st22.trans kt)
    have pre24 : ∀ t, Steps p.tables e below (T22.setTop (mkF m 12 #[.val (.ref b1), .val (.ref b2), .val (.int j), .val (.int (Int32.ofNat cs.length)), .unset, .unset] [(.int j), (.ref b1)])) t → Steps p.tables e below (s₁.setTop (entryFrame m #[(.ref b1), (.ref b2), (.int j)] 6)) t := fun t kt => pre23 t (by
      refine XS.istoreN X22.here hx rfl (hb hby d37_4) rfl (l' := #[.val (.ref b1), .val (.ref b2), .val (.int j), .val (.int (Int32.ofNat cs.length)), .unset, .unset]) rfl ?_
      show Steps p.tables e below (T22.setTop (mkF m 5 #[.val (.ref b1), .val (.ref b2), .val (.int j), .val (.int (Int32.ofNat cs.length)), .unset, .unset] [])) _
      refine XS.iloadN X22.here hx rfl (hb hby d37_5) rfl ?_
      show Steps p.tables e below (T22.setTop (mkF m 6 #[.val (.ref b1), .val (.ref b2), .val (.int j), .val (.int (Int32.ofNat cs.length)), .unset, .unset] [(.int j)])) _
      refine XS.iloadN X22.here hx rfl (hb hby d37_6) rfl ?_
      show Steps p.tables e below (T22.setTop (mkF m 7 #[.val (.ref b1), .val (.ref b2), .val (.int j), .val (.int (Int32.ofNat cs.length)), .unset, .unset] [(.int (Int32.ofNat cs.length)), (.int j)])) _
      refine XS.icmpNo X22.here hx rfl (hb hby d37_7) rfl (tlt (own_lt1 hj hk hcs c0_1 : j < (Int32.ofNat cs.length))).2.1 ?_
      show Steps p.tables e below (T22.setTop (mkF m 10 #[.val (.ref b1), .val (.ref b2), .val (.int j), .val (.int (Int32.ofNat cs.length)), .unset, .unset] [])) _
      refine XS.aloadN X22.here hx rfl (hb hby d37_10) rfl rfl ?_
      show Steps p.tables e below (T22.setTop (mkF m 11 #[.val (.ref b1), .val (.ref b2), .val (.int j), .val (.int (Int32.ofNat cs.length)), .unset, .unset] [(.ref b1)])) _
      refine XS.iloadN X22.here hx rfl (hb hby d37_11) rfl ?_
      show Steps p.tables e below (T22.setTop (mkF m 12 #[.val (.ref b1), .val (.ref b2), .val (.int j), .val (.int (Int32.ofNat cs.length)), .unset, .unset] [(.int j), (.ref b1)])) _
      exact kt)
    obtain ⟨cq25, kq25, q25a, q25b, q25c⟩ := isOf hZ e22q (Sn0)
    obtain ⟨_, _, ⟨T25, L25, k25, n25⟩, -, X25, ⟨Lc25, hQ25, l25, y25, z25⟩, st25⟩ := X22.virtualBack hx (y := (⟨"java/lang/String", "charAt", "(I)C"⟩ : MethodName)) (z := (⟨"java/lang/String", "charAt", "(I)C"⟩ : MethodName)) hown (mvT hZ (hw _ (List.mem_of_getElem? (i := 232) rfl))) (mvT hZ (hw _ (List.mem_of_getElem? (i := 233) rfl))) (notFace_of_selects (args := #[]) (mvT hZ (hw _ (List.mem_of_getElem? (i := 235) rfl)))) (mvT hZ (hw _ (List.mem_of_getElem? (i := 235) rfl))) (mvT hZ (hw _ (List.mem_of_getElem? (i := 234) rfl))) (by decide) (StrChars.Road.chN (W := 0) hZ hwc (kI := 4) (hw _ (List.mem_of_getElem? (i := 5) rfl)) (cs := cs) (i := k) (j := j) Sn0 Sn1 Sn2 Sn3 (StrChars.Road.codOf rfl (fun c q => (lcs c q).2)) (fun c q => ⟨(lcs c q).1, own_65 (lcs c q).2⟩) (S0.ext (O0).2) hz (S1.ext (O0).2) hfm (own_4000 hcs) c0_1 hj (by decide) (by decide)) q25a q25c (g := (mkF m 12 #[.val (.ref b1), .val (.ref b2), .val (.int j), .val (.int (Int32.ofNat cs.length)), .unset, .unset] [(.int j), (.ref b1)])) rfl (by rw [hml]; rfl) (Steps.refl _) (argsL := [(.int j)]) (rest := []) (lenOf pd__28I_29C rfl) rfl (by show 2 * 0 + _ ≤ _; exact Nat.le_of_eq rfl) (hb hby d37_12) (fun _ _ => ⟨rfl, e22q, (by decide : 0 + 0 ≤ _), (by decide : 0 + 0 ≤ _)⟩)
    dsimp only [Pt.U, Pt.locs, Pt.cells, Pt.slots] at X25 l25 y25 z25 st25 hQ25
    subst l25 y25 z25
    obtain ⟨rfl, rfl, e25q⟩ := hQ25
    have N25q : Fr n0 [] := Fr.nil n0
    have N25 := Fr.app N22 N25q
    have pre26 : ∀ t, Steps p.tables e below (T25.setTop (mkF m 15 #[.val (.ref b1), .val (.ref b2), .val (.int j), .val (.int (Int32.ofNat cs.length)), .unset, .unset] [(.int (cs.getD k 0))])) t → Steps p.tables e below (s₁.setTop (entryFrame m #[(.ref b1), (.ref b2), (.int j)] 6)) t := fun t kt => pre24 t (st25.trans kt)
    have hv27 : (cs.getD k 0) = (own_exp cs ds k) := own_e1 c0_1
    have pre27 : ∀ t, Steps p.tables e below (T25.setTop (mkF m 15 #[.val (.ref b1), .val (.ref b2), .val (.int j), .val (.int (Int32.ofNat cs.length)), .unset, .unset] [(.int (own_exp cs ds k))])) t → Steps p.tables e below (s₁.setTop (entryFrame m #[(.ref b1), (.ref b2), (.int j)] 6)) t := fun t kt => pre26 t (by rw [hv27]; exact kt)
    have sf29 : ∀ y ∈ ([] : List Addr), Safe Z own_EL s.vm h0 y := sf0
    have ch29 : CHr Z own_EL s.vm h0 s.vm h0 := CHr.trans (CHr.refl hI) (CHr.keep (Keep.refl h0 []) sf29 ((CHr.refl hI)).1)
    have hCf : CHr Z own_EL s.vm s.heap T25.vm T25.heap := by
      rw [hh, e25q]
      exact CHr.trans ch29 (CHv.at (s := s) (vm0 := s.vm) X25 hZ (own_EW hw) (ch29).1)
    obtain ⟨fs, hr, hrun, hended, hW, hsame⟩ := X25.leave (v := (some (.int (own_exp cs ds k)))) (fun h => by rw [Bd.returns] at h; cases h)
    refine ⟨_, _, pre27 _ ?_, hrun, hended, _, _, rfl, ?_, hCf, ReturnedEndW.of_narrow ⟨_, rfl⟩ hW (hsame.mono (by decide) (by decide))⟩
    · exact retI X25 hx Bd.returns (hb hby d37_15) hr
    · show QXa Z cs ds k h0 n0 _ T25.heap _
      rw [e25q]
      exact ⟨rfl, N25, (Keep.refl h0 [])⟩
  · by_cases c0_2 : k - cs.length < 7
    · have pre30 : ∀ t, Steps p.tables e below (s₁.setTop (mkF m 1 #[.val (.ref b1), .val (.ref b2), .val (.int j), .unset, .unset, .unset] [(.ref b1)])) t → Steps p.tables e below (s₁.setTop (entryFrame m #[(.ref b1), (.ref b2), (.int j)] 6)) t := fun t kt => pre0 t (by
        refine XS.aloadN X0.here hx rfl (hb hby d37_0) rfl rfl ?_
        show Steps p.tables e below (s₁.setTop (mkF m 1 #[.val (.ref b1), .val (.ref b2), .val (.int j), .unset, .unset, .unset] [(.ref b1)])) _
        exact kt)
      obtain ⟨cq31, kq31, q31a, q31b, q31c⟩ := isOf hZ e0 (Sn0)
      obtain ⟨_, _, ⟨T31, L31, k31, n31⟩, -, X31, ⟨Lc31, hQ31, l31, y31, z31⟩, st31⟩ := X0.virtualBack hx (y := (⟨"java/lang/String", "length", "()I"⟩ : MethodName)) (z := (⟨"java/lang/String", "length", "()I"⟩ : MethodName)) hown (mvT hZ (hw _ (List.mem_of_getElem? (i := 224) rfl))) (mvT hZ (hw _ (List.mem_of_getElem? (i := 79) rfl))) (notFace_of_selects (args := #[]) (mvT hZ (hw _ (List.mem_of_getElem? (i := 81) rfl)))) (mvT hZ (hw _ (List.mem_of_getElem? (i := 81) rfl))) (mvT hZ (hw _ (List.mem_of_getElem? (i := 80) rfl))) (by decide) (backOf (W := 0) (rmLs l Z a0 hw [] b1 c1 _ _ z0 _ h0 n0 Z0 Sn0 Sn1 Sn2 Sn3 O0 S0 hz) hZ (hw _ (List.mem_of_getElem? (i := 82) rfl)) (hw _ (List.mem_of_getElem? (i := 6) rfl)) (by decide) (by decide)) q31a q31c (g := (mkF m 1 #[.val (.ref b1), .val (.ref b2), .val (.int j), .unset, .unset, .unset] [(.ref b1)])) rfl (by rw [hml]; rfl) (Steps.refl _) (argsL := []) (rest := []) (lenOf pd__28_29I rfl) rfl (by show 2 * 0 + _ ≤ _; exact Nat.le_of_eq rfl) (hb hby d37_1) (fun _ _ => ⟨rfl, e0, (by decide : 0 + 0 ≤ _), (by decide : 0 + 0 ≤ _)⟩)
      dsimp only [Pt.U, Pt.locs, Pt.cells, Pt.slots] at X31 l31 y31 z31 st31 hQ31
      subst l31 y31 z31
      obtain ⟨rfl, N31q, e31q⟩ := hQ31
      have N31 := Fr.app N0 N31q
      have pre32 : ∀ t, Steps p.tables e below (T31.setTop (mkF m 4 #[.val (.ref b1), .val (.ref b2), .val (.int j), .unset, .unset, .unset] [(.int (Int32.ofNat cs.length))])) t → Steps p.tables e below (s₁.setTop (entryFrame m #[(.ref b1), (.ref b2), (.int j)] 6)) t := fun t kt => pre30 t (st31.trans kt)
      have pre33 : ∀ t, Steps p.tables e below (T31.setTop (mkF m 19 #[.val (.ref b1), .val (.ref b2), .val (.int j), .val (.int (Int32.ofNat cs.length)), .unset, .unset] [(.int (j - (Int32.ofNat cs.length)))])) t → Steps p.tables e below (s₁.setTop (entryFrame m #[(.ref b1), (.ref b2), (.int j)] 6)) t := fun t kt => pre32 t (by
        refine XS.istoreN X31.here hx rfl (hb hby d37_4) rfl (l' := #[.val (.ref b1), .val (.ref b2), .val (.int j), .val (.int (Int32.ofNat cs.length)), .unset, .unset]) rfl ?_
        show Steps p.tables e below (T31.setTop (mkF m 5 #[.val (.ref b1), .val (.ref b2), .val (.int j), .val (.int (Int32.ofNat cs.length)), .unset, .unset] [])) _
        refine XS.iloadN X31.here hx rfl (hb hby d37_5) rfl ?_
        show Steps p.tables e below (T31.setTop (mkF m 6 #[.val (.ref b1), .val (.ref b2), .val (.int j), .val (.int (Int32.ofNat cs.length)), .unset, .unset] [(.int j)])) _
        refine XS.iloadN X31.here hx rfl (hb hby d37_6) rfl ?_
        show Steps p.tables e below (T31.setTop (mkF m 7 #[.val (.ref b1), .val (.ref b2), .val (.int j), .val (.int (Int32.ofNat cs.length)), .unset, .unset] [(.int (Int32.ofNat cs.length)), (.int j)])) _
        refine XS.icmpYes X31.here hx rfl (pc0 := 7) (pc' := 16) rfl (hb hby d37_7) rfl (flt (own_lt1n hj hk hcs c0_1 : ¬ (j < (Int32.ofNat cs.length)))).2.1 (by decide) (by decide) ?_
        show Steps p.tables e below (T31.setTop (mkF m 16 #[.val (.ref b1), .val (.ref b2), .val (.int j), .val (.int (Int32.ofNat cs.length)), .unset, .unset] [])) _
        refine XS.iloadN X31.here hx rfl (hb hby d37_16) rfl ?_
        show Steps p.tables e below (T31.setTop (mkF m 17 #[.val (.ref b1), .val (.ref b2), .val (.int j), .val (.int (Int32.ofNat cs.length)), .unset, .unset] [(.int j)])) _
        refine XS.iloadN X31.here hx rfl (hb hby d37_17) rfl ?_
        show Steps p.tables e below (T31.setTop (mkF m 18 #[.val (.ref b1), .val (.ref b2), .val (.int j), .val (.int (Int32.ofNat cs.length)), .unset, .unset] [(.int (Int32.ofNat cs.length)), (.int j)])) _
        refine XS.isub X31.here hx rfl (hb hby d37_18) rfl ?_
        show Steps p.tables e below (T31.setTop (mkF m 19 #[.val (.ref b1), .val (.ref b2), .val (.int j), .val (.int (Int32.ofNat cs.length)), .unset, .unset] [(.int (j - (Int32.ofNat cs.length)))])) _
        exact kt)
      have hv34 : (j - (Int32.ofNat cs.length)) = (Int32.ofNat (k - cs.length)) := own_sub1 hj hk hcs c0_1
      have pre34 : ∀ t, Steps p.tables e below (T31.setTop (mkF m 19 #[.val (.ref b1), .val (.ref b2), .val (.int j), .val (.int (Int32.ofNat cs.length)), .unset, .unset] [(.int (Int32.ofNat (k - cs.length)))])) t → Steps p.tables e below (s₁.setTop (entryFrame m #[(.ref b1), (.ref b2), (.int j)] 6)) t := fun t kt => pre33 t (by rw [hv34]; exact kt)
      have pre35 : ∀ t, Steps p.tables e below (T31.setTop (mkF m 28 #[.val (.ref b1), .val (.ref b2), .val (.int j), .val (.int (Int32.ofNat cs.length)), .val (.int (Int32.ofNat (k - cs.length))), .unset] [])) t → Steps p.tables e below (s₁.setTop (entryFrame m #[(.ref b1), (.ref b2), (.int j)] 6)) t := fun t kt => pre34 t (by
        refine XS.istore X31.here hx rfl (hb hby d37_19) rfl (l' := #[.val (.ref b1), .val (.ref b2), .val (.int j), .val (.int (Int32.ofNat cs.length)), .val (.int (Int32.ofNat (k - cs.length))), .unset]) rfl ?_
        show Steps p.tables e below (T31.setTop (mkF m 21 #[.val (.ref b1), .val (.ref b2), .val (.int j), .val (.int (Int32.ofNat cs.length)), .val (.int (Int32.ofNat (k - cs.length))), .unset] [])) _
        refine XS.iload X31.here hx rfl (hb hby d37_21) rfl ?_
        show Steps p.tables e below (T31.setTop (mkF m 23 #[.val (.ref b1), .val (.ref b2), .val (.int j), .val (.int (Int32.ofNat cs.length)), .val (.int (Int32.ofNat (k - cs.length))), .unset] [(.int (Int32.ofNat (k - cs.length)))])) _
        refine XS.bipush X31.here hx rfl (hb hby d37_23) ?_
        show Steps p.tables e below (T31.setTop (mkF m 25 #[.val (.ref b1), .val (.ref b2), .val (.int j), .val (.int (Int32.ofNat cs.length)), .val (.int (Int32.ofNat (k - cs.length))), .unset] [(.int (7 : Int32)), (.int (Int32.ofNat (k - cs.length)))])) _
        refine XS.icmpNo X31.here hx rfl (hb hby d37_25) rfl (tlt (own_lt2 hk c0_2 : (Int32.ofNat (k - cs.length)) < (7 : Int32))).2.1 ?_
        show Steps p.tables e below (T31.setTop (mkF m 28 #[.val (.ref b1), .val (.ref b2), .val (.int j), .val (.int (Int32.ofNat cs.length)), .val (.int (Int32.ofNat (k - cs.length))), .unset] [])) _
        exact kt)
      have sf36 : ∀ y ∈ ([] : List Addr), Safe Z own_EL s.vm h0 y := sf0
      have ch36 : CHr Z own_EL s.vm h0 s.vm h0 := CHr.trans (CHr.refl hI) (CHr.keep (Keep.refl h0 []) sf36 ((CHr.refl hI)).1)
      obtain ⟨a37, T37, h37, k37, bb37, kk37, X37, e37, E37, hS37, hk37, hZ37, hO37, A37, Fc37, Fv37, Vv37, -, -, hC37, Lt37, hne37, st37⟩ := ldcCH (s := s) (vm0 := s.vm) X31 hx hZ hown (hw _ (List.mem_of_getElem? (i := 231) rfl)) (own_wS hw) e31q ((State.WarmedH.refl s).since 0) (Nat.zero_le _) (own_EW hw) (by decide) (ch36).1 (vs := [(.int (32 : Int32)), (.int (110 : Int32)), (.int (101 : Int32)), (.int (101 : Int32)), (.int (100 : Int32)), (.int (115 : Int32)), (.int (32 : Int32))]) (z := (7 : Int32)) ⟨by decide, by decide⟩ (by decide) rfl (g := (mkF m 28 #[.val (.ref b1), .val (.ref b2), .val (.int j), .val (.int (Int32.ofNat cs.length)), .val (.int (Int32.ofNat (k - cs.length))), .unset] [])) rfl (hb hby d37_28) (n := 28) (by decide) (by decide) (by decide) (by decide)
      have f38 := ((Keep.refl h0 [])).ext E37
      have f39 := (O0).ext E37
      have f40 := ((Keep.refl h0 [])).ext E37
      have f41 := (Sn0).ext E37
      have f42 := (Sn1).ext E37
      have f43 := (Sn2).ext E37
      have f44 := (Sn3).ext E37
      have f45 := (Sv0).ext E37
      have f46 := (Sv1).ext E37
      have f47 := (Sv2).ext E37
      have f48 := (Sv3).ext E37
      have Zf49 : n0 ≤ h37.size := Nat.le_trans Z0 E37.1
      have ch50 : CHr Z own_EL s.vm h0 T37.vm h37 := CHr.trans ch36 hC37
      have pre51 : ∀ t, Steps p.tables e below (T37.setTop (mkF m 30 #[.val (.ref b1), .val (.ref b2), .val (.int j), .val (.int (Int32.ofNat cs.length)), .val (.int (Int32.ofNat (k - cs.length))), .unset] [(.ref a37)])) t → Steps p.tables e below (s₁.setTop (entryFrame m #[(.ref b1), (.ref b2), (.int j)] 6)) t := fun t kt => pre35 t (st37 _ kt)
      have Vn : Arv Z h37 bb37 kk37 .byte (Int32.ofNat own_N.length) (own_B own_N) (.int (0 : Int32)) := own_toarv Vv37 own_NB
      have pre52 : ∀ t, Steps p.tables e below (T37.setTop (mkF m 32 #[.val (.ref b1), .val (.ref b2), .val (.int j), .val (.int (Int32.ofNat cs.length)), .val (.int (Int32.ofNat (k - cs.length))), .unset] [(.int (Int32.ofNat (k - cs.length))), (.ref a37)])) t → Steps p.tables e below (s₁.setTop (entryFrame m #[(.ref b1), (.ref b2), (.int j)] 6)) t := fun t kt => pre51 t (by
        refine XS.iload X37.here hx rfl (hb hby d37_30) rfl ?_
        show Steps p.tables e below (T37.setTop (mkF m 32 #[.val (.ref b1), .val (.ref b2), .val (.int j), .val (.int (Int32.ofNat cs.length)), .val (.int (Int32.ofNat (k - cs.length))), .unset] [(.int (Int32.ofNat (k - cs.length))), (.ref a37)])) _
        exact kt)
      obtain ⟨cq53, kq53, q53a, q53b, q53c⟩ := isOf hZ37 e37 (A37)
      obtain ⟨_, _, ⟨T53, L53, k53, n53⟩, -, X53, ⟨Lc53, hQ53, l53, y53, z53⟩, st53⟩ := X37.virtualBack hx (y := (⟨"java/lang/String", "charAt", "(I)C"⟩ : MethodName)) (z := (⟨"java/lang/String", "charAt", "(I)C"⟩ : MethodName)) hO37 (mvT hZ37 (hw _ (List.mem_of_getElem? (i := 232) rfl))) (mvT hZ37 (hw _ (List.mem_of_getElem? (i := 233) rfl))) (notFace_of_selects (args := #[]) (mvT hZ37 (hw _ (List.mem_of_getElem? (i := 235) rfl)))) (mvT hZ37 (hw _ (List.mem_of_getElem? (i := 235) rfl))) (mvT hZ37 (hw _ (List.mem_of_getElem? (i := 234) rfl))) (by decide) (StrChars.Road.chN (W := 0) hZ37 hwc (kI := 4) (hw _ (List.mem_of_getElem? (i := 5) rfl)) (cs := own_N) (i := (k - cs.length)) (j := (Int32.ofNat (k - cs.length))) A37 Fv37 Fc37 Vn (StrChars.Road.codOf rfl (fun c q => (own_lN c q).2)) (fun c q => ⟨(own_lN c q).1, own_65 (own_lN c q).2⟩) (S0.ext (f39).2) hz (S1.ext (f39).2) hfm (own_4000 own_N3) c0_2 rfl (by decide) (by decide)) q53a q53c (g := (mkF m 32 #[.val (.ref b1), .val (.ref b2), .val (.int j), .val (.int (Int32.ofNat cs.length)), .val (.int (Int32.ofNat (k - cs.length))), .unset] [(.int (Int32.ofNat (k - cs.length))), (.ref a37)])) rfl (by rw [hml]; rfl) (Steps.refl _) (argsL := [(.int (Int32.ofNat (k - cs.length)))]) (rest := []) (lenOf pd__28I_29C rfl) rfl (by show 2 * 0 + _ ≤ _; exact Nat.le_of_eq rfl) (hb hby d37_32) (fun _ _ => ⟨rfl, e37, (by decide : 2 + 0 ≤ _), (by decide : 32 + 0 ≤ _)⟩)
      dsimp only [Pt.U, Pt.locs, Pt.cells, Pt.slots] at X53 l53 y53 z53 st53 hQ53
      subst l53 y53 z53
      obtain ⟨rfl, rfl, e53q⟩ := hQ53
      have N53q : Fr n0 [] := Fr.nil n0
      have N53 := Fr.app N31 N53q
      have pre54 : ∀ t, Steps p.tables e below (T53.setTop (mkF m 35 #[.val (.ref b1), .val (.ref b2), .val (.int j), .val (.int (Int32.ofNat cs.length)), .val (.int (Int32.ofNat (k - cs.length))), .unset] [(.int (own_N.getD (k - cs.length) 0))])) t → Steps p.tables e below (s₁.setTop (entryFrame m #[(.ref b1), (.ref b2), (.int j)] 6)) t := fun t kt => pre52 t (st53.trans kt)
      have hv55 : (own_N.getD (k - cs.length) 0) = (own_exp cs ds k) := own_e2 c0_1 c0_2
      have pre55 : ∀ t, Steps p.tables e below (T53.setTop (mkF m 35 #[.val (.ref b1), .val (.ref b2), .val (.int j), .val (.int (Int32.ofNat cs.length)), .val (.int (Int32.ofNat (k - cs.length))), .unset] [(.int (own_exp cs ds k))])) t → Steps p.tables e below (s₁.setTop (entryFrame m #[(.ref b1), (.ref b2), (.int j)] 6)) t := fun t kt => pre54 t (by rw [hv55]; exact kt)
      have sf57 : ∀ y ∈ ([] : List Addr), Safe Z own_EL T37.vm h37 y := sf0
      have ch57 : CHr Z own_EL s.vm h0 T37.vm h37 := CHr.trans ch50 (CHr.keep (Keep.refl h37 []) sf57 (ch50).1)
      have hCf : CHr Z own_EL s.vm s.heap T53.vm T53.heap := by
        rw [hh, e53q]
        exact CHr.trans ch57 (CHv.at (s := s) (vm0 := T37.vm) X53 hZ37 (own_EW hw) (ch57).1)
      obtain ⟨fs, hr, hrun, hended, hRE⟩ := X53.leaveW hS37 (by rw [e53q]; exact hk37) (v := (some (.int (own_exp cs ds k)))) (fun h => by rw [Bd.returns] at h; cases h)
      refine ⟨_, _, pre55 _ ?_, hrun, hended, _, _, rfl, ?_, hCf, hRE.1, hRE.2.1, hRE.2.2.1, hRE.2.2.2.mono (by decide) (by decide)⟩
      · exact retI X53 hx Bd.returns (hb hby d37_35) hr
      · show QXa Z cs ds k h0 n0 _ T53.heap _
        rw [e53q]
        exact ⟨rfl, N53, f40⟩
    · by_cases c0_3 : k - cs.length - 7 < ds.length
      · have pre58 : ∀ t, Steps p.tables e below (s₁.setTop (mkF m 1 #[.val (.ref b1), .val (.ref b2), .val (.int j), .unset, .unset, .unset] [(.ref b1)])) t → Steps p.tables e below (s₁.setTop (entryFrame m #[(.ref b1), (.ref b2), (.int j)] 6)) t := fun t kt => pre0 t (by
          refine XS.aloadN X0.here hx rfl (hb hby d37_0) rfl rfl ?_
          show Steps p.tables e below (s₁.setTop (mkF m 1 #[.val (.ref b1), .val (.ref b2), .val (.int j), .unset, .unset, .unset] [(.ref b1)])) _
          exact kt)
        obtain ⟨cq59, kq59, q59a, q59b, q59c⟩ := isOf hZ e0 (Sn0)
        obtain ⟨_, _, ⟨T59, L59, k59, n59⟩, -, X59, ⟨Lc59, hQ59, l59, y59, z59⟩, st59⟩ := X0.virtualBack hx (y := (⟨"java/lang/String", "length", "()I"⟩ : MethodName)) (z := (⟨"java/lang/String", "length", "()I"⟩ : MethodName)) hown (mvT hZ (hw _ (List.mem_of_getElem? (i := 224) rfl))) (mvT hZ (hw _ (List.mem_of_getElem? (i := 79) rfl))) (notFace_of_selects (args := #[]) (mvT hZ (hw _ (List.mem_of_getElem? (i := 81) rfl)))) (mvT hZ (hw _ (List.mem_of_getElem? (i := 81) rfl))) (mvT hZ (hw _ (List.mem_of_getElem? (i := 80) rfl))) (by decide) (backOf (W := 0) (rmLs l Z a0 hw [] b1 c1 _ _ z0 _ h0 n0 Z0 Sn0 Sn1 Sn2 Sn3 O0 S0 hz) hZ (hw _ (List.mem_of_getElem? (i := 82) rfl)) (hw _ (List.mem_of_getElem? (i := 6) rfl)) (by decide) (by decide)) q59a q59c (g := (mkF m 1 #[.val (.ref b1), .val (.ref b2), .val (.int j), .unset, .unset, .unset] [(.ref b1)])) rfl (by rw [hml]; rfl) (Steps.refl _) (argsL := []) (rest := []) (lenOf pd__28_29I rfl) rfl (by show 2 * 0 + _ ≤ _; exact Nat.le_of_eq rfl) (hb hby d37_1) (fun _ _ => ⟨rfl, e0, (by decide : 0 + 0 ≤ _), (by decide : 0 + 0 ≤ _)⟩)
        dsimp only [Pt.U, Pt.locs, Pt.cells, Pt.slots] at X59 l59 y59 z59 st59 hQ59
        subst l59 y59 z59
        obtain ⟨rfl, N59q, e59q⟩ := hQ59
        have N59 := Fr.app N0 N59q
        have pre60 : ∀ t, Steps p.tables e below (T59.setTop (mkF m 4 #[.val (.ref b1), .val (.ref b2), .val (.int j), .unset, .unset, .unset] [(.int (Int32.ofNat cs.length))])) t → Steps p.tables e below (s₁.setTop (entryFrame m #[(.ref b1), (.ref b2), (.int j)] 6)) t := fun t kt => pre58 t (st59.trans kt)
        have pre61 : ∀ t, Steps p.tables e below (T59.setTop (mkF m 19 #[.val (.ref b1), .val (.ref b2), .val (.int j), .val (.int (Int32.ofNat cs.length)), .unset, .unset] [(.int (j - (Int32.ofNat cs.length)))])) t → Steps p.tables e below (s₁.setTop (entryFrame m #[(.ref b1), (.ref b2), (.int j)] 6)) t := fun t kt => pre60 t (by
          refine XS.istoreN X59.here hx rfl (hb hby d37_4) rfl (l' := #[.val (.ref b1), .val (.ref b2), .val (.int j), .val (.int (Int32.ofNat cs.length)), .unset, .unset]) rfl ?_
          show Steps p.tables e below (T59.setTop (mkF m 5 #[.val (.ref b1), .val (.ref b2), .val (.int j), .val (.int (Int32.ofNat cs.length)), .unset, .unset] [])) _
          refine XS.iloadN X59.here hx rfl (hb hby d37_5) rfl ?_
          show Steps p.tables e below (T59.setTop (mkF m 6 #[.val (.ref b1), .val (.ref b2), .val (.int j), .val (.int (Int32.ofNat cs.length)), .unset, .unset] [(.int j)])) _
          refine XS.iloadN X59.here hx rfl (hb hby d37_6) rfl ?_
          show Steps p.tables e below (T59.setTop (mkF m 7 #[.val (.ref b1), .val (.ref b2), .val (.int j), .val (.int (Int32.ofNat cs.length)), .unset, .unset] [(.int (Int32.ofNat cs.length)), (.int j)])) _
          refine XS.icmpYes X59.here hx rfl (pc0 := 7) (pc' := 16) rfl (hb hby d37_7) rfl (flt (own_lt1n hj hk hcs c0_1 : ¬ (j < (Int32.ofNat cs.length)))).2.1 (by decide) (by decide) ?_
          show Steps p.tables e below (T59.setTop (mkF m 16 #[.val (.ref b1), .val (.ref b2), .val (.int j), .val (.int (Int32.ofNat cs.length)), .unset, .unset] [])) _
          refine XS.iloadN X59.here hx rfl (hb hby d37_16) rfl ?_
          show Steps p.tables e below (T59.setTop (mkF m 17 #[.val (.ref b1), .val (.ref b2), .val (.int j), .val (.int (Int32.ofNat cs.length)), .unset, .unset] [(.int j)])) _
          refine XS.iloadN X59.here hx rfl (hb hby d37_17) rfl ?_
          show Steps p.tables e below (T59.setTop (mkF m 18 #[.val (.ref b1), .val (.ref b2), .val (.int j), .val (.int (Int32.ofNat cs.length)), .unset, .unset] [(.int (Int32.ofNat cs.length)), (.int j)])) _
          refine XS.isub X59.here hx rfl (hb hby d37_18) rfl ?_
          show Steps p.tables e below (T59.setTop (mkF m 19 #[.val (.ref b1), .val (.ref b2), .val (.int j), .val (.int (Int32.ofNat cs.length)), .unset, .unset] [(.int (j - (Int32.ofNat cs.length)))])) _
          exact kt)
        have hv62 : (j - (Int32.ofNat cs.length)) = (Int32.ofNat (k - cs.length)) := own_sub1 hj hk hcs c0_1
        have pre62 : ∀ t, Steps p.tables e below (T59.setTop (mkF m 19 #[.val (.ref b1), .val (.ref b2), .val (.int j), .val (.int (Int32.ofNat cs.length)), .unset, .unset] [(.int (Int32.ofNat (k - cs.length)))])) t → Steps p.tables e below (s₁.setTop (entryFrame m #[(.ref b1), (.ref b2), (.int j)] 6)) t := fun t kt => pre61 t (by rw [hv62]; exact kt)
        have pre63 : ∀ t, Steps p.tables e below (T59.setTop (mkF m 41 #[.val (.ref b1), .val (.ref b2), .val (.int j), .val (.int (Int32.ofNat cs.length)), .val (.int (Int32.ofNat (k - cs.length))), .unset] [(.int ((Int32.ofNat (k - cs.length)) - (7 : Int32)))])) t → Steps p.tables e below (s₁.setTop (entryFrame m #[(.ref b1), (.ref b2), (.int j)] 6)) t := fun t kt => pre62 t (by
          refine XS.istore X59.here hx rfl (hb hby d37_19) rfl (l' := #[.val (.ref b1), .val (.ref b2), .val (.int j), .val (.int (Int32.ofNat cs.length)), .val (.int (Int32.ofNat (k - cs.length))), .unset]) rfl ?_
          show Steps p.tables e below (T59.setTop (mkF m 21 #[.val (.ref b1), .val (.ref b2), .val (.int j), .val (.int (Int32.ofNat cs.length)), .val (.int (Int32.ofNat (k - cs.length))), .unset] [])) _
          refine XS.iload X59.here hx rfl (hb hby d37_21) rfl ?_
          show Steps p.tables e below (T59.setTop (mkF m 23 #[.val (.ref b1), .val (.ref b2), .val (.int j), .val (.int (Int32.ofNat cs.length)), .val (.int (Int32.ofNat (k - cs.length))), .unset] [(.int (Int32.ofNat (k - cs.length)))])) _
          refine XS.bipush X59.here hx rfl (hb hby d37_23) ?_
          show Steps p.tables e below (T59.setTop (mkF m 25 #[.val (.ref b1), .val (.ref b2), .val (.int j), .val (.int (Int32.ofNat cs.length)), .val (.int (Int32.ofNat (k - cs.length))), .unset] [(.int (7 : Int32)), (.int (Int32.ofNat (k - cs.length)))])) _
          refine XS.icmpYes X59.here hx rfl (pc0 := 25) (pc' := 36) rfl (hb hby d37_25) rfl (flt (own_lt2n hk c0_2 : ¬ ((Int32.ofNat (k - cs.length)) < (7 : Int32)))).2.1 (by decide) (by decide) ?_
          show Steps p.tables e below (T59.setTop (mkF m 36 #[.val (.ref b1), .val (.ref b2), .val (.int j), .val (.int (Int32.ofNat cs.length)), .val (.int (Int32.ofNat (k - cs.length))), .unset] [])) _
          refine XS.iload X59.here hx rfl (hb hby d37_36) rfl ?_
          show Steps p.tables e below (T59.setTop (mkF m 38 #[.val (.ref b1), .val (.ref b2), .val (.int j), .val (.int (Int32.ofNat cs.length)), .val (.int (Int32.ofNat (k - cs.length))), .unset] [(.int (Int32.ofNat (k - cs.length)))])) _
          refine XS.bipush X59.here hx rfl (hb hby d37_38) ?_
          show Steps p.tables e below (T59.setTop (mkF m 40 #[.val (.ref b1), .val (.ref b2), .val (.int j), .val (.int (Int32.ofNat cs.length)), .val (.int (Int32.ofNat (k - cs.length))), .unset] [(.int (7 : Int32)), (.int (Int32.ofNat (k - cs.length)))])) _
          refine XS.isub X59.here hx rfl (hb hby d37_40) rfl ?_
          show Steps p.tables e below (T59.setTop (mkF m 41 #[.val (.ref b1), .val (.ref b2), .val (.int j), .val (.int (Int32.ofNat cs.length)), .val (.int (Int32.ofNat (k - cs.length))), .unset] [(.int ((Int32.ofNat (k - cs.length)) - (7 : Int32)))])) _
          exact kt)
        have hv64 : ((Int32.ofNat (k - cs.length)) - (7 : Int32)) = (Int32.ofNat (k - cs.length - 7)) := own_sub2 hk c0_2
        have pre64 : ∀ t, Steps p.tables e below (T59.setTop (mkF m 41 #[.val (.ref b1), .val (.ref b2), .val (.int j), .val (.int (Int32.ofNat cs.length)), .val (.int (Int32.ofNat (k - cs.length))), .unset] [(.int (Int32.ofNat (k - cs.length - 7)))])) t → Steps p.tables e below (s₁.setTop (entryFrame m #[(.ref b1), (.ref b2), (.int j)] 6)) t := fun t kt => pre63 t (by rw [hv64]; exact kt)
        have pre65 : ∀ t, Steps p.tables e below (T59.setTop (mkF m 46 #[.val (.ref b1), .val (.ref b2), .val (.int j), .val (.int (Int32.ofNat cs.length)), .val (.int (Int32.ofNat (k - cs.length))), .val (.int (Int32.ofNat (k - cs.length - 7)))] [(.ref b2), (.int (Int32.ofNat (k - cs.length - 7)))])) t → Steps p.tables e below (s₁.setTop (entryFrame m #[(.ref b1), (.ref b2), (.int j)] 6)) t := fun t kt => pre64 t (by
          refine XS.istore X59.here hx rfl (hb hby d37_41) rfl (l' := #[.val (.ref b1), .val (.ref b2), .val (.int j), .val (.int (Int32.ofNat cs.length)), .val (.int (Int32.ofNat (k - cs.length))), .val (.int (Int32.ofNat (k - cs.length - 7)))]) rfl ?_
          show Steps p.tables e below (T59.setTop (mkF m 43 #[.val (.ref b1), .val (.ref b2), .val (.int j), .val (.int (Int32.ofNat cs.length)), .val (.int (Int32.ofNat (k - cs.length))), .val (.int (Int32.ofNat (k - cs.length - 7)))] [])) _
          refine XS.iload X59.here hx rfl (hb hby d37_43) rfl ?_
          show Steps p.tables e below (T59.setTop (mkF m 45 #[.val (.ref b1), .val (.ref b2), .val (.int j), .val (.int (Int32.ofNat cs.length)), .val (.int (Int32.ofNat (k - cs.length))), .val (.int (Int32.ofNat (k - cs.length - 7)))] [(.int (Int32.ofNat (k - cs.length - 7)))])) _
          refine XS.aloadN X59.here hx rfl (hb hby d37_45) rfl rfl ?_
          show Steps p.tables e below (T59.setTop (mkF m 46 #[.val (.ref b1), .val (.ref b2), .val (.int j), .val (.int (Int32.ofNat cs.length)), .val (.int (Int32.ofNat (k - cs.length))), .val (.int (Int32.ofNat (k - cs.length - 7)))] [(.ref b2), (.int (Int32.ofNat (k - cs.length - 7)))])) _
          exact kt)
        obtain ⟨cq66, kq66, q66a, q66b, q66c⟩ := isOf hZ e59q (Sv0)
        obtain ⟨_, _, ⟨T66, L66, k66, n66⟩, -, X66, ⟨Lc66, hQ66, l66, y66, z66⟩, st66⟩ := X59.virtualBack hx (y := (⟨"java/lang/String", "length", "()I"⟩ : MethodName)) (z := (⟨"java/lang/String", "length", "()I"⟩ : MethodName)) hown (mvT hZ (hw _ (List.mem_of_getElem? (i := 224) rfl))) (mvT hZ (hw _ (List.mem_of_getElem? (i := 79) rfl))) (notFace_of_selects (args := #[]) (mvT hZ (hw _ (List.mem_of_getElem? (i := 81) rfl)))) (mvT hZ (hw _ (List.mem_of_getElem? (i := 81) rfl))) (mvT hZ (hw _ (List.mem_of_getElem? (i := 80) rfl))) (by decide) (backOf (W := 1) (rmLs l Z a0 hw [] b2 c2 _ _ z0 _ h0 n0 Z0 Sv0 Sv1 Sv2 Sv3 O0 S0 hz) hZ (hw _ (List.mem_of_getElem? (i := 82) rfl)) (hw _ (List.mem_of_getElem? (i := 6) rfl)) (by decide) (by decide)) q66a q66c (g := (mkF m 46 #[.val (.ref b1), .val (.ref b2), .val (.int j), .val (.int (Int32.ofNat cs.length)), .val (.int (Int32.ofNat (k - cs.length))), .val (.int (Int32.ofNat (k - cs.length - 7)))] [(.ref b2), (.int (Int32.ofNat (k - cs.length - 7)))])) rfl (by rw [hml]; rfl) (Steps.refl _) (argsL := []) (rest := [(.int (Int32.ofNat (k - cs.length - 7)))]) (lenOf pd__28_29I rfl) rfl (by show 2 * 0 + _ ≤ _; exact Nat.le_of_eq rfl) (hb hby d37_46) (fun _ _ => ⟨rfl, e59q, (by decide : 0 + 0 ≤ _), (by decide : 0 + 0 ≤ _)⟩)
        dsimp only [Pt.U, Pt.locs, Pt.cells, Pt.slots] at X66 l66 y66 z66 st66 hQ66
        subst l66 y66 z66
        obtain ⟨rfl, N66q, e66q⟩ := hQ66
        have N66 := Fr.app N59 N66q
        have pre67 : ∀ t, Steps p.tables e below (T66.setTop (mkF m 49 #[.val (.ref b1), .val (.ref b2), .val (.int j), .val (.int (Int32.ofNat cs.length)), .val (.int (Int32.ofNat (k - cs.length))), .val (.int (Int32.ofNat (k - cs.length - 7)))] [(.int (Int32.ofNat ds.length)), (.int (Int32.ofNat (k - cs.length - 7)))])) t → Steps p.tables e below (s₁.setTop (entryFrame m #[(.ref b1), (.ref b2), (.int j)] 6)) t := fun t kt => pre65 t (st66.trans kt)
        have pre68 : ∀ t, Steps p.tables e below (T66.setTop (mkF m 55 #[.val (.ref b1), .val (.ref b2), .val (.int j), .val (.int (Int32.ofNat cs.length)), .val (.int (Int32.ofNat (k - cs.length))), .val (.int (Int32.ofNat (k - cs.length - 7)))] [(.int (Int32.ofNat (k - cs.length - 7))), (.ref b2)])) t → Steps p.tables e below (s₁.setTop (entryFrame m #[(.ref b1), (.ref b2), (.int j)] 6)) t := fun t kt => pre67 t (by
          refine XS.icmpNo X66.here hx rfl (hb hby d37_49) rfl (tlt (own_lt3 hk hds c0_3 : (Int32.ofNat (k - cs.length - 7)) < (Int32.ofNat ds.length))).2.1 ?_
          show Steps p.tables e below (T66.setTop (mkF m 52 #[.val (.ref b1), .val (.ref b2), .val (.int j), .val (.int (Int32.ofNat cs.length)), .val (.int (Int32.ofNat (k - cs.length))), .val (.int (Int32.ofNat (k - cs.length - 7)))] [])) _
          refine XS.aloadN X66.here hx rfl (hb hby d37_52) rfl rfl ?_
          show Steps p.tables e below (T66.setTop (mkF m 53 #[.val (.ref b1), .val (.ref b2), .val (.int j), .val (.int (Int32.ofNat cs.length)), .val (.int (Int32.ofNat (k - cs.length))), .val (.int (Int32.ofNat (k - cs.length - 7)))] [(.ref b2)])) _
          refine XS.iload X66.here hx rfl (hb hby d37_53) rfl ?_
          show Steps p.tables e below (T66.setTop (mkF m 55 #[.val (.ref b1), .val (.ref b2), .val (.int j), .val (.int (Int32.ofNat cs.length)), .val (.int (Int32.ofNat (k - cs.length))), .val (.int (Int32.ofNat (k - cs.length - 7)))] [(.int (Int32.ofNat (k - cs.length - 7))), (.ref b2)])) _
          exact kt)
        obtain ⟨cq69, kq69, q69a, q69b, q69c⟩ := isOf hZ e66q (Sv0)
        obtain ⟨_, _, ⟨T69, L69, k69, n69⟩, -, X69, ⟨Lc69, hQ69, l69, y69, z69⟩, st69⟩ := X66.virtualBack hx (y := (⟨"java/lang/String", "charAt", "(I)C"⟩ : MethodName)) (z := (⟨"java/lang/String", "charAt", "(I)C"⟩ : MethodName)) hown (mvT hZ (hw _ (List.mem_of_getElem? (i := 232) rfl))) (mvT hZ (hw _ (List.mem_of_getElem? (i := 233) rfl))) (notFace_of_selects (args := #[]) (mvT hZ (hw _ (List.mem_of_getElem? (i := 235) rfl)))) (mvT hZ (hw _ (List.mem_of_getElem? (i := 235) rfl))) (mvT hZ (hw _ (List.mem_of_getElem? (i := 234) rfl))) (by decide) (StrChars.Road.chN (W := 0) hZ hwc (kI := 4) (hw _ (List.mem_of_getElem? (i := 5) rfl)) (cs := ds) (i := (k - cs.length - 7)) (j := (Int32.ofNat (k - cs.length - 7))) Sv0 Sv1 Sv2 Sv3 (StrChars.Road.codOf rfl (fun c q => (lds c q).2)) (fun c q => ⟨(lds c q).1, own_65 (lds c q).2⟩) (S0.ext (O0).2) hz (S1.ext (O0).2) hfm (own_4000 hds) c0_3 rfl (by decide) (by decide)) q69a q69c (g := (mkF m 55 #[.val (.ref b1), .val (.ref b2), .val (.int j), .val (.int (Int32.ofNat cs.length)), .val (.int (Int32.ofNat (k - cs.length))), .val (.int (Int32.ofNat (k - cs.length - 7)))] [(.int (Int32.ofNat (k - cs.length - 7))), (.ref b2)])) rfl (by rw [hml]; rfl) (Steps.refl _) (argsL := [(.int (Int32.ofNat (k - cs.length - 7)))]) (rest := []) (lenOf pd__28I_29C rfl) rfl (by show 2 * 0 + _ ≤ _; exact Nat.le_of_eq rfl) (hb hby d37_55) (fun _ _ => ⟨rfl, e66q, (by decide : 0 + 0 ≤ _), (by decide : 0 + 0 ≤ _)⟩)
        dsimp only [Pt.U, Pt.locs, Pt.cells, Pt.slots] at X69 l69 y69 z69 st69 hQ69
        subst l69 y69 z69
        obtain ⟨rfl, rfl, e69q⟩ := hQ69
        have N69q : Fr n0 [] := Fr.nil n0
        have N69 := Fr.app N66 N69q
        have pre70 : ∀ t, Steps p.tables e below (T69.setTop (mkF m 58 #[.val (.ref b1), .val (.ref b2), .val (.int j), .val (.int (Int32.ofNat cs.length)), .val (.int (Int32.ofNat (k - cs.length))), .val (.int (Int32.ofNat (k - cs.length - 7)))] [(.int (ds.getD (k - cs.length - 7) 0))])) t → Steps p.tables e below (s₁.setTop (entryFrame m #[(.ref b1), (.ref b2), (.int j)] 6)) t := fun t kt => pre68 t (st69.trans kt)
        have hv71 : (ds.getD (k - cs.length - 7) 0) = (own_exp cs ds k) := own_e3 c0_1 c0_2 c0_3
        have pre71 : ∀ t, Steps p.tables e below (T69.setTop (mkF m 58 #[.val (.ref b1), .val (.ref b2), .val (.int j), .val (.int (Int32.ofNat cs.length)), .val (.int (Int32.ofNat (k - cs.length))), .val (.int (Int32.ofNat (k - cs.length - 7)))] [(.int (own_exp cs ds k))])) t → Steps p.tables e below (s₁.setTop (entryFrame m #[(.ref b1), (.ref b2), (.int j)] 6)) t := fun t kt => pre70 t (by rw [hv71]; exact kt)
        have sf73 : ∀ y ∈ ([] : List Addr), Safe Z own_EL s.vm h0 y := sf0
        have ch73 : CHr Z own_EL s.vm h0 s.vm h0 := CHr.trans (CHr.refl hI) (CHr.keep (Keep.refl h0 []) sf73 ((CHr.refl hI)).1)
        have hCf : CHr Z own_EL s.vm s.heap T69.vm T69.heap := by
          rw [hh, e69q]
          exact CHr.trans ch73 (CHv.at (s := s) (vm0 := s.vm) X69 hZ (own_EW hw) (ch73).1)
        obtain ⟨fs, hr, hrun, hended, hW, hsame⟩ := X69.leave (v := (some (.int (own_exp cs ds k)))) (fun h => by rw [Bd.returns] at h; cases h)
        refine ⟨_, _, pre71 _ ?_, hrun, hended, _, _, rfl, ?_, hCf, ReturnedEndW.of_narrow ⟨_, rfl⟩ hW (hsame.mono (by decide) (by decide))⟩
        · exact retI X69 hx Bd.returns (hb hby d37_58) hr
        · show QXa Z cs ds k h0 n0 _ T69.heap _
          rw [e69q]
          exact ⟨rfl, N69, (Keep.refl h0 [])⟩
      · have pre74 : ∀ t, Steps p.tables e below (s₁.setTop (mkF m 1 #[.val (.ref b1), .val (.ref b2), .val (.int j), .unset, .unset, .unset] [(.ref b1)])) t → Steps p.tables e below (s₁.setTop (entryFrame m #[(.ref b1), (.ref b2), (.int j)] 6)) t := fun t kt => pre0 t (by
          refine XS.aloadN X0.here hx rfl (hb hby d37_0) rfl rfl ?_
          show Steps p.tables e below (s₁.setTop (mkF m 1 #[.val (.ref b1), .val (.ref b2), .val (.int j), .unset, .unset, .unset] [(.ref b1)])) _
          exact kt)
        obtain ⟨cq75, kq75, q75a, q75b, q75c⟩ := isOf hZ e0 (Sn0)
        obtain ⟨_, _, ⟨T75, L75, k75, n75⟩, -, X75, ⟨Lc75, hQ75, l75, y75, z75⟩, st75⟩ := X0.virtualBack hx (y := (⟨"java/lang/String", "length", "()I"⟩ : MethodName)) (z := (⟨"java/lang/String", "length", "()I"⟩ : MethodName)) hown (mvT hZ (hw _ (List.mem_of_getElem? (i := 224) rfl))) (mvT hZ (hw _ (List.mem_of_getElem? (i := 79) rfl))) (notFace_of_selects (args := #[]) (mvT hZ (hw _ (List.mem_of_getElem? (i := 81) rfl)))) (mvT hZ (hw _ (List.mem_of_getElem? (i := 81) rfl))) (mvT hZ (hw _ (List.mem_of_getElem? (i := 80) rfl))) (by decide) (backOf (W := 0) (rmLs l Z a0 hw [] b1 c1 _ _ z0 _ h0 n0 Z0 Sn0 Sn1 Sn2 Sn3 O0 S0 hz) hZ (hw _ (List.mem_of_getElem? (i := 82) rfl)) (hw _ (List.mem_of_getElem? (i := 6) rfl)) (by decide) (by decide)) q75a q75c (g := (mkF m 1 #[.val (.ref b1), .val (.ref b2), .val (.int j), .unset, .unset, .unset] [(.ref b1)])) rfl (by rw [hml]; rfl) (Steps.refl _) (argsL := []) (rest := []) (lenOf pd__28_29I rfl) rfl (by show 2 * 0 + _ ≤ _; exact Nat.le_of_eq rfl) (hb hby d37_1) (fun _ _ => ⟨rfl, e0, (by decide : 0 + 0 ≤ _), (by decide : 0 + 0 ≤ _)⟩)
        dsimp only [Pt.U, Pt.locs, Pt.cells, Pt.slots] at X75 l75 y75 z75 st75 hQ75
        subst l75 y75 z75
        obtain ⟨rfl, N75q, e75q⟩ := hQ75
        have N75 := Fr.app N0 N75q
        have pre76 : ∀ t, Steps p.tables e below (T75.setTop (mkF m 4 #[.val (.ref b1), .val (.ref b2), .val (.int j), .unset, .unset, .unset] [(.int (Int32.ofNat cs.length))])) t → Steps p.tables e below (s₁.setTop (entryFrame m #[(.ref b1), (.ref b2), (.int j)] 6)) t := fun t kt => pre74 t (st75.trans kt)
        have pre77 : ∀ t, Steps p.tables e below (T75.setTop (mkF m 19 #[.val (.ref b1), .val (.ref b2), .val (.int j), .val (.int (Int32.ofNat cs.length)), .unset, .unset] [(.int (j - (Int32.ofNat cs.length)))])) t → Steps p.tables e below (s₁.setTop (entryFrame m #[(.ref b1), (.ref b2), (.int j)] 6)) t := fun t kt => pre76 t (by
          refine XS.istoreN X75.here hx rfl (hb hby d37_4) rfl (l' := #[.val (.ref b1), .val (.ref b2), .val (.int j), .val (.int (Int32.ofNat cs.length)), .unset, .unset]) rfl ?_
          show Steps p.tables e below (T75.setTop (mkF m 5 #[.val (.ref b1), .val (.ref b2), .val (.int j), .val (.int (Int32.ofNat cs.length)), .unset, .unset] [])) _
          refine XS.iloadN X75.here hx rfl (hb hby d37_5) rfl ?_
          show Steps p.tables e below (T75.setTop (mkF m 6 #[.val (.ref b1), .val (.ref b2), .val (.int j), .val (.int (Int32.ofNat cs.length)), .unset, .unset] [(.int j)])) _
          refine XS.iloadN X75.here hx rfl (hb hby d37_6) rfl ?_
          show Steps p.tables e below (T75.setTop (mkF m 7 #[.val (.ref b1), .val (.ref b2), .val (.int j), .val (.int (Int32.ofNat cs.length)), .unset, .unset] [(.int (Int32.ofNat cs.length)), (.int j)])) _
          refine XS.icmpYes X75.here hx rfl (pc0 := 7) (pc' := 16) rfl (hb hby d37_7) rfl (flt (own_lt1n hj hk hcs c0_1 : ¬ (j < (Int32.ofNat cs.length)))).2.1 (by decide) (by decide) ?_
          show Steps p.tables e below (T75.setTop (mkF m 16 #[.val (.ref b1), .val (.ref b2), .val (.int j), .val (.int (Int32.ofNat cs.length)), .unset, .unset] [])) _
          refine XS.iloadN X75.here hx rfl (hb hby d37_16) rfl ?_
          show Steps p.tables e below (T75.setTop (mkF m 17 #[.val (.ref b1), .val (.ref b2), .val (.int j), .val (.int (Int32.ofNat cs.length)), .unset, .unset] [(.int j)])) _
          refine XS.iloadN X75.here hx rfl (hb hby d37_17) rfl ?_
          show Steps p.tables e below (T75.setTop (mkF m 18 #[.val (.ref b1), .val (.ref b2), .val (.int j), .val (.int (Int32.ofNat cs.length)), .unset, .unset] [(.int (Int32.ofNat cs.length)), (.int j)])) _
          refine XS.isub X75.here hx rfl (hb hby d37_18) rfl ?_
          show Steps p.tables e below (T75.setTop (mkF m 19 #[.val (.ref b1), .val (.ref b2), .val (.int j), .val (.int (Int32.ofNat cs.length)), .unset, .unset] [(.int (j - (Int32.ofNat cs.length)))])) _
          exact kt)
        have hv78 : (j - (Int32.ofNat cs.length)) = (Int32.ofNat (k - cs.length)) := own_sub1 hj hk hcs c0_1
        have pre78 : ∀ t, Steps p.tables e below (T75.setTop (mkF m 19 #[.val (.ref b1), .val (.ref b2), .val (.int j), .val (.int (Int32.ofNat cs.length)), .unset, .unset] [(.int (Int32.ofNat (k - cs.length)))])) t → Steps p.tables e below (s₁.setTop (entryFrame m #[(.ref b1), (.ref b2), (.int j)] 6)) t := fun t kt => pre77 t (by rw [hv78]; exact kt)
        have pre79 : ∀ t, Steps p.tables e below (T75.setTop (mkF m 41 #[.val (.ref b1), .val (.ref b2), .val (.int j), .val (.int (Int32.ofNat cs.length)), .val (.int (Int32.ofNat (k - cs.length))), .unset] [(.int ((Int32.ofNat (k - cs.length)) - (7 : Int32)))])) t → Steps p.tables e below (s₁.setTop (entryFrame m #[(.ref b1), (.ref b2), (.int j)] 6)) t := fun t kt => pre78 t (by
          refine XS.istore X75.here hx rfl (hb hby d37_19) rfl (l' := #[.val (.ref b1), .val (.ref b2), .val (.int j), .val (.int (Int32.ofNat cs.length)), .val (.int (Int32.ofNat (k - cs.length))), .unset]) rfl ?_
          show Steps p.tables e below (T75.setTop (mkF m 21 #[.val (.ref b1), .val (.ref b2), .val (.int j), .val (.int (Int32.ofNat cs.length)), .val (.int (Int32.ofNat (k - cs.length))), .unset] [])) _
          refine XS.iload X75.here hx rfl (hb hby d37_21) rfl ?_
          show Steps p.tables e below (T75.setTop (mkF m 23 #[.val (.ref b1), .val (.ref b2), .val (.int j), .val (.int (Int32.ofNat cs.length)), .val (.int (Int32.ofNat (k - cs.length))), .unset] [(.int (Int32.ofNat (k - cs.length)))])) _
          refine XS.bipush X75.here hx rfl (hb hby d37_23) ?_
          show Steps p.tables e below (T75.setTop (mkF m 25 #[.val (.ref b1), .val (.ref b2), .val (.int j), .val (.int (Int32.ofNat cs.length)), .val (.int (Int32.ofNat (k - cs.length))), .unset] [(.int (7 : Int32)), (.int (Int32.ofNat (k - cs.length)))])) _
          refine XS.icmpYes X75.here hx rfl (pc0 := 25) (pc' := 36) rfl (hb hby d37_25) rfl (flt (own_lt2n hk c0_2 : ¬ ((Int32.ofNat (k - cs.length)) < (7 : Int32)))).2.1 (by decide) (by decide) ?_
          show Steps p.tables e below (T75.setTop (mkF m 36 #[.val (.ref b1), .val (.ref b2), .val (.int j), .val (.int (Int32.ofNat cs.length)), .val (.int (Int32.ofNat (k - cs.length))), .unset] [])) _
          refine XS.iload X75.here hx rfl (hb hby d37_36) rfl ?_
          show Steps p.tables e below (T75.setTop (mkF m 38 #[.val (.ref b1), .val (.ref b2), .val (.int j), .val (.int (Int32.ofNat cs.length)), .val (.int (Int32.ofNat (k - cs.length))), .unset] [(.int (Int32.ofNat (k - cs.length)))])) _
          refine XS.bipush X75.here hx rfl (hb hby d37_38) ?_
          show Steps p.tables e below (T75.setTop (mkF m 40 #[.val (.ref b1), .val (.ref b2), .val (.int j), .val (.int (Int32.ofNat cs.length)), .val (.int (Int32.ofNat (k - cs.length))), .unset] [(.int (7 : Int32)), (.int (Int32.ofNat (k - cs.length)))])) _
          refine XS.isub X75.here hx rfl (hb hby d37_40) rfl ?_
          show Steps p.tables e below (T75.setTop (mkF m 41 #[.val (.ref b1), .val (.ref b2), .val (.int j), .val (.int (Int32.ofNat cs.length)), .val (.int (Int32.ofNat (k - cs.length))), .unset] [(.int ((Int32.ofNat (k - cs.length)) - (7 : Int32)))])) _
          exact kt)
        have hv80 : ((Int32.ofNat (k - cs.length)) - (7 : Int32)) = (Int32.ofNat (k - cs.length - 7)) := own_sub2 hk c0_2
        have pre80 : ∀ t, Steps p.tables e below (T75.setTop (mkF m 41 #[.val (.ref b1), .val (.ref b2), .val (.int j), .val (.int (Int32.ofNat cs.length)), .val (.int (Int32.ofNat (k - cs.length))), .unset] [(.int (Int32.ofNat (k - cs.length - 7)))])) t → Steps p.tables e below (s₁.setTop (entryFrame m #[(.ref b1), (.ref b2), (.int j)] 6)) t := fun t kt => pre79 t (by rw [hv80]; exact kt)
        have pre81 : ∀ t, Steps p.tables e below (T75.setTop (mkF m 46 #[.val (.ref b1), .val (.ref b2), .val (.int j), .val (.int (Int32.ofNat cs.length)), .val (.int (Int32.ofNat (k - cs.length))), .val (.int (Int32.ofNat (k - cs.length - 7)))] [(.ref b2), (.int (Int32.ofNat (k - cs.length - 7)))])) t → Steps p.tables e below (s₁.setTop (entryFrame m #[(.ref b1), (.ref b2), (.int j)] 6)) t := fun t kt => pre80 t (by
          refine XS.istore X75.here hx rfl (hb hby d37_41) rfl (l' := #[.val (.ref b1), .val (.ref b2), .val (.int j), .val (.int (Int32.ofNat cs.length)), .val (.int (Int32.ofNat (k - cs.length))), .val (.int (Int32.ofNat (k - cs.length - 7)))]) rfl ?_
          show Steps p.tables e below (T75.setTop (mkF m 43 #[.val (.ref b1), .val (.ref b2), .val (.int j), .val (.int (Int32.ofNat cs.length)), .val (.int (Int32.ofNat (k - cs.length))), .val (.int (Int32.ofNat (k - cs.length - 7)))] [])) _
          refine XS.iload X75.here hx rfl (hb hby d37_43) rfl ?_
          show Steps p.tables e below (T75.setTop (mkF m 45 #[.val (.ref b1), .val (.ref b2), .val (.int j), .val (.int (Int32.ofNat cs.length)), .val (.int (Int32.ofNat (k - cs.length))), .val (.int (Int32.ofNat (k - cs.length - 7)))] [(.int (Int32.ofNat (k - cs.length - 7)))])) _
          refine XS.aloadN X75.here hx rfl (hb hby d37_45) rfl rfl ?_
          show Steps p.tables e below (T75.setTop (mkF m 46 #[.val (.ref b1), .val (.ref b2), .val (.int j), .val (.int (Int32.ofNat cs.length)), .val (.int (Int32.ofNat (k - cs.length))), .val (.int (Int32.ofNat (k - cs.length - 7)))] [(.ref b2), (.int (Int32.ofNat (k - cs.length - 7)))])) _
          exact kt)
        obtain ⟨cq82, kq82, q82a, q82b, q82c⟩ := isOf hZ e75q (Sv0)
        obtain ⟨_, _, ⟨T82, L82, k82, n82⟩, -, X82, ⟨Lc82, hQ82, l82, y82, z82⟩, st82⟩ := X75.virtualBack hx (y := (⟨"java/lang/String", "length", "()I"⟩ : MethodName)) (z := (⟨"java/lang/String", "length", "()I"⟩ : MethodName)) hown (mvT hZ (hw _ (List.mem_of_getElem? (i := 224) rfl))) (mvT hZ (hw _ (List.mem_of_getElem? (i := 79) rfl))) (notFace_of_selects (args := #[]) (mvT hZ (hw _ (List.mem_of_getElem? (i := 81) rfl)))) (mvT hZ (hw _ (List.mem_of_getElem? (i := 81) rfl))) (mvT hZ (hw _ (List.mem_of_getElem? (i := 80) rfl))) (by decide) (backOf (W := 1) (rmLs l Z a0 hw [] b2 c2 _ _ z0 _ h0 n0 Z0 Sv0 Sv1 Sv2 Sv3 O0 S0 hz) hZ (hw _ (List.mem_of_getElem? (i := 82) rfl)) (hw _ (List.mem_of_getElem? (i := 6) rfl)) (by decide) (by decide)) q82a q82c (g := (mkF m 46 #[.val (.ref b1), .val (.ref b2), .val (.int j), .val (.int (Int32.ofNat cs.length)), .val (.int (Int32.ofNat (k - cs.length))), .val (.int (Int32.ofNat (k - cs.length - 7)))] [(.ref b2), (.int (Int32.ofNat (k - cs.length - 7)))])) rfl (by rw [hml]; rfl) (Steps.refl _) (argsL := []) (rest := [(.int (Int32.ofNat (k - cs.length - 7)))]) (lenOf pd__28_29I rfl) rfl (by show 2 * 0 + _ ≤ _; exact Nat.le_of_eq rfl) (hb hby d37_46) (fun _ _ => ⟨rfl, e75q, (by decide : 0 + 0 ≤ _), (by decide : 0 + 0 ≤ _)⟩)
        dsimp only [Pt.U, Pt.locs, Pt.cells, Pt.slots] at X82 l82 y82 z82 st82 hQ82
        subst l82 y82 z82
        obtain ⟨rfl, N82q, e82q⟩ := hQ82
        have N82 := Fr.app N75 N82q
        have pre83 : ∀ t, Steps p.tables e below (T82.setTop (mkF m 49 #[.val (.ref b1), .val (.ref b2), .val (.int j), .val (.int (Int32.ofNat cs.length)), .val (.int (Int32.ofNat (k - cs.length))), .val (.int (Int32.ofNat (k - cs.length - 7)))] [(.int (Int32.ofNat ds.length)), (.int (Int32.ofNat (k - cs.length - 7)))])) t → Steps p.tables e below (s₁.setTop (entryFrame m #[(.ref b1), (.ref b2), (.int j)] 6)) t := fun t kt => pre81 t (st82.trans kt)
        have pre84 : ∀ t, Steps p.tables e below (T82.setTop (mkF m 60 #[.val (.ref b1), .val (.ref b2), .val (.int j), .val (.int (Int32.ofNat cs.length)), .val (.int (Int32.ofNat (k - cs.length))), .val (.int (Int32.ofNat (k - cs.length - 7)))] [(.int (-1 : Int32))])) t → Steps p.tables e below (s₁.setTop (entryFrame m #[(.ref b1), (.ref b2), (.int j)] 6)) t := fun t kt => pre83 t (by
          refine XS.icmpYes X82.here hx rfl (pc0 := 49) (pc' := 59) rfl (hb hby d37_49) rfl (flt (own_lt3n hk hds c0_3 : ¬ ((Int32.ofNat (k - cs.length - 7)) < (Int32.ofNat ds.length)))).2.1 (by decide) (by decide) ?_
          show Steps p.tables e below (T82.setTop (mkF m 59 #[.val (.ref b1), .val (.ref b2), .val (.int j), .val (.int (Int32.ofNat cs.length)), .val (.int (Int32.ofNat (k - cs.length))), .val (.int (Int32.ofNat (k - cs.length - 7)))] [])) _
          refine XS.iconst X82.here hx rfl (hb hby d37_59) ?_
          show Steps p.tables e below (T82.setTop (mkF m 60 #[.val (.ref b1), .val (.ref b2), .val (.int j), .val (.int (Int32.ofNat cs.length)), .val (.int (Int32.ofNat (k - cs.length))), .val (.int (Int32.ofNat (k - cs.length - 7)))] [(.int (-1 : Int32))])) _
          exact kt)
        have hv85 : (-1 : Int32) = (own_exp cs ds k) := own_e4 c0_1 c0_2 c0_3
        have pre85 : ∀ t, Steps p.tables e below (T82.setTop (mkF m 60 #[.val (.ref b1), .val (.ref b2), .val (.int j), .val (.int (Int32.ofNat cs.length)), .val (.int (Int32.ofNat (k - cs.length))), .val (.int (Int32.ofNat (k - cs.length - 7)))] [(.int (own_exp cs ds k))])) t → Steps p.tables e below (s₁.setTop (entryFrame m #[(.ref b1), (.ref b2), (.int j)] 6)) t := fun t kt => pre84 t (by rw [hv85]; exact kt)
        have sf87 : ∀ y ∈ ([] : List Addr), Safe Z own_EL s.vm h0 y := sf0
        have ch87 : CHr Z own_EL s.vm h0 s.vm h0 := CHr.trans (CHr.refl hI) (CHr.keep (Keep.refl h0 []) sf87 ((CHr.refl hI)).1)
        have hCf : CHr Z own_EL s.vm s.heap T82.vm T82.heap := by
          rw [hh, e82q]
          exact CHr.trans ch87 (CHv.at (s := s) (vm0 := s.vm) X82 hZ (own_EW hw) (ch87).1)
        obtain ⟨fs, hr, hrun, hended, hW, hsame⟩ := X82.leave (v := (some (.int (own_exp cs ds k)))) (fun h => by rw [Bd.returns] at h; cases h)
        refine ⟨_, _, pre85 _ ?_, hrun, hended, _, _, rfl, ?_, hCf, ReturnedEndW.of_narrow ⟨_, rfl⟩ hW (hsame.mono (by decide) (by decide))⟩
        · exact retI X82 hx Bd.returns (hb hby d37_60) hr
        · show QXa Z cs ds k h0 n0 _ T82.heap _
          rw [e82q]
          exact ⟨rfl, N82, (Keep.refl h0 [])⟩
theorem ef_rmXb (m : MethodId) (x0 : Addr) (x1 : Addr) (x2 : Int32) : entryFrame m #[(.ref x0), (.ref x1), (.int x2)] 6 = mkF m 0 #[.val (.ref x0), .val (.ref x1), .val (.int x2), .unset, .unset, .unset] [] := by first | (simp [entryFrame, mkF, argsToLocals, Value.category]; done) | rfl
set_option maxRecDepth 65536 in
set_option maxHeartbeats 40000000 in
theorem rmXb (l : Launch) (Z : State) (a0 : Array Value) (hw : ∀ d ∈ tables_1, d.before a0 Z = true) (ws : List Jvm.Cond) (b1 b2 c1 c2 : Addr) (k1 k2 : ClassId) (cs ds : List Int32) (k : Nat) (j z0 : Int32) (fm : Value) (h0 : Heap) (n0 : Nat) (Z0 : n0 ≤ h0.size) (Sn0 : Exa Z h0 b1 "java/lang/String") (Sn1 : Fld Z h0 b1 "java/lang/String" "value" "[B" (.ref c1)) (Sn2 : Fld Z h0 b1 "java/lang/String" "coder" "B" (.int (0 : Int32))) (Sn3 : Arv Z h0 c1 k1 .byte (Int32.ofNat cs.length) (own_B cs) (.int (0 : Int32))) (Sv0 : Exa Z h0 b2 "java/lang/String") (Sv1 : Fld Z h0 b2 "java/lang/String" "value" "[B" (.ref c2)) (Sv2 : Fld Z h0 b2 "java/lang/String" "coder" "B" (.int (0 : Int32))) (Sv3 : Arv Z h0 c2 k2 .byte (Int32.ofNat ds.length) (own_B ds) (.int (0 : Int32))) (hcs : cs.length ≤ 3) (hds : ds.length ≤ 3) (lcs : ∀ c ∈ cs, ¬ c < 0 ∧ ¬ (255 : Int32) < c) (lds : ∀ c ∈ ds, ¬ c < 0 ∧ ¬ (255 : Int32) < c) (hj : j = Int32.ofNat k) (hk : k ≤ 12) (O0 : OldL Z n0 h0) (S0 : Sta Z Z.heap "java/lang/String" "COMPACT_STRINGS" "Z" (.int z0)) (hz : ¬ z0 = (0 : Int32)) (S1 : Sta Z Z.heap "jdk/internal/util/Preconditions" "SIOOBE_FORMATTER" "Ljava/util/function/BiFunction;" fm) (hfm : fm.isRef = true) (h10 : 10 ≤ k) :
    MetFree l (⟨"kakehashi/cli/OptionMissingPinLaw", "expectedAt", "(Ljava/lang/String;Ljava/lang/String;I)I"⟩ : MethodName) (head1 (Jvm.Cond.code (⟨"kakehashi/cli/OptionMissingPinLaw", "expectedAt", "(Ljava/lang/String;Ljava/lang/String;I)I"⟩ : MethodName) method_4_code 6 (some .int) :: ws) ({ frames := 4, cells := 0, slots := 0, locals := 53 } : Room)) (fun a U => a = #[(.ref b1), (.ref b2), (.int j)] ∧ Z.Warmed39 U.vm ∧ U.heap = h0 ∧ CHv Z own_EL U.vm h0) (fun _ _ _ _ _ => True) (fun _ U o U' => ∃ v L, o = .returned v ∧ QXa Z cs ds k h0 n0 v U'.heap L ∧ CHr Z own_EL U.vm U.heap U'.vm U'.heap ∧ ReturnedEndW U o U' L ({ frames := 4, cells := 0, slots := 0, locals := 53 } : Room).cells ({ frames := 4, cells := 0, slots := 0, locals := 53 } : Room).slots) := by
  refine MetFree.of_bodySF (plainFor_of_name pn_kakehashi_cli_OptionMissingPinLaw) hisR ?_
  intro p e s m args below meth c s₁ Bd hml0 hP hK
  obtain ⟨rfl, hZ, hh, hI⟩ := hP
  have hx := Bd.exec
  have hby := Bd.bytes
  have hml : c.maxLocals = 6 := hml0
  have hown : s.vm.findClass "kakehashi/cli/OptionMissingPinLaw" = some m.cls := findClass_of_methodNamed Bd.named
  have hnm := (name_of_methodNamed Bd.named Bd.method).1
  have X0 : Stand p l e ({ frames := 4, cells := 0, slots := 0, locals := 53 } : Room) s m #[(.ref b1), (.ref b2), (.int j)] below meth c s₁ [] 0 0 := Stand.of_body Bd
  have e0 : s₁.heap = h0 := by rw [← hh, Bd.state]; rfl
  have N0 := Fr.nil n0
  have pre0 : ∀ t, Steps p.tables e below (s₁.setTop (mkF m 0 #[.val (.ref b1), .val (.ref b2), .val (.int j), .unset, .unset, .unset] [])) t → Steps p.tables e below (s₁.setTop (entryFrame m #[(.ref b1), (.ref b2), (.int j)] 6)) t := fun t kt => castTop (ef_rmXb m b1 b2 j) kt
  have hwc : ∀ d ∈ StrChars.Road.wordsChN, d.before a0 Z = true := fun d hd => hw d ((by decide +kernel : ∀ d ∈ StrChars.Road.wordsChN, d ∈ tables_1) d hd)
  by_cases c0_1 : k - cs.length - 7 < ds.length
  · have pre21 : ∀ t, Steps p.tables e below (s₁.setTop (mkF m 1 #[.val (.ref b1), .val (.ref b2), .val (.int j), .unset, .unset, .unset] [(.ref b1)])) t → Steps p.tables e below (s₁.setTop (entryFrame m #[(.ref b1), (.ref b2), (.int j)] 6)) t := fun t kt => pre0 t (by
      refine XS.aloadN X0.here hx rfl (hb hby d37_0) rfl rfl ?_
      show Steps p.tables e below (s₁.setTop (mkF m 1 #[.val (.ref b1), .val (.ref b2), .val (.int j), .unset, .unset, .unset] [(.ref b1)])) _
      exact kt)
    obtain ⟨cq22, kq22, q22a, q22b, q22c⟩ := isOf hZ e0 (Sn0)
    obtain ⟨_, _, ⟨T22, L22, k22, n22⟩, -, X22, ⟨Lc22, hQ22, l22, y22, z22⟩, st22⟩ := X0.virtualBack hx (y := (⟨"java/lang/String", "length", "()I"⟩ : MethodName)) (z := (⟨"java/lang/String", "length", "()I"⟩ : MethodName)) hown (mvT hZ (hw _ (List.mem_of_getElem? (i := 224) rfl))) (mvT hZ (hw _ (List.mem_of_getElem? (i := 79) rfl))) (notFace_of_selects (args := #[]) (mvT hZ (hw _ (List.mem_of_getElem? (i := 81) rfl)))) (mvT hZ (hw _ (List.mem_of_getElem? (i := 81) rfl))) (mvT hZ (hw _ (List.mem_of_getElem? (i := 80) rfl))) (by decide) (backOf (W := 0) (rmLs l Z a0 hw [] b1 c1 _ _ z0 _ h0 n0 Z0 Sn0 Sn1 Sn2 Sn3 O0 S0 hz) hZ (hw _ (List.mem_of_getElem? (i := 82) rfl)) (hw _ (List.mem_of_getElem? (i := 6) rfl)) (by decide) (by decide)) q22a q22c (g := (mkF m 1 #[.val (.ref b1), .val (.ref b2), .val (.int j), .unset, .unset, .unset] [(.ref b1)])) rfl (by rw [hml]; rfl) (Steps.refl _) (argsL := []) (rest := []) (lenOf pd__28_29I rfl) rfl (by show 2 * 0 + _ ≤ _; exact Nat.le_of_eq rfl) (hb hby d37_1) (fun _ _ => ⟨rfl, e0, (by decide : 0 + 0 ≤ _), (by decide : 0 + 0 ≤ _)⟩)
    dsimp only [Pt.U, Pt.locs, Pt.cells, Pt.slots] at X22 l22 y22 z22 st22 hQ22
    subst l22 y22 z22
    obtain ⟨rfl, N22q, e22q⟩ := hQ22
    have N22 := Fr.app N0 N22q
    have pre23 : ∀ t, Steps p.tables e below (T22.setTop (mkF m 4 #[.val (.ref b1), .val (.ref b2), .val (.int j), .unset, .unset, .unset] [(.int (Int32.ofNat cs.length))])) t → Steps p.tables e below (s₁.setTop (entryFrame m #[(.ref b1), (.ref b2), (.int j)] 6)) t := fun t kt => pre21 t (st22.trans kt)
    have pre24 : ∀ t, Steps p.tables e below (T22.setTop (mkF m 19 #[.val (.ref b1), .val (.ref b2), .val (.int j), .val (.int (Int32.ofNat cs.length)), .unset, .unset] [(.int (j - (Int32.ofNat cs.length)))])) t → Steps p.tables e below (s₁.setTop (entryFrame m #[(.ref b1), (.ref b2), (.int j)] 6)) t := fun t kt => pre23 t (by
      refine XS.istoreN X22.here hx rfl (hb hby d37_4) rfl (l' := #[.val (.ref b1), .val (.ref b2), .val (.int j), .val (.int (Int32.ofNat cs.length)), .unset, .unset]) rfl ?_
      show Steps p.tables e below (T22.setTop (mkF m 5 #[.val (.ref b1), .val (.ref b2), .val (.int j), .val (.int (Int32.ofNat cs.length)), .unset, .unset] [])) _
      refine XS.iloadN X22.here hx rfl (hb hby d37_5) rfl ?_
      show Steps p.tables e below (T22.setTop (mkF m 6 #[.val (.ref b1), .val (.ref b2), .val (.int j), .val (.int (Int32.ofNat cs.length)), .unset, .unset] [(.int j)])) _
      refine XS.iloadN X22.here hx rfl (hb hby d37_6) rfl ?_
      show Steps p.tables e below (T22.setTop (mkF m 7 #[.val (.ref b1), .val (.ref b2), .val (.int j), .val (.int (Int32.ofNat cs.length)), .unset, .unset] [(.int (Int32.ofNat cs.length)), (.int j)])) _
      refine XS.icmpYes X22.here hx rfl (pc0 := 7) (pc' := 16) rfl (hb hby d37_7) rfl (flt (own_lt1n hj hk hcs (by omega) : ¬ (j < (Int32.ofNat cs.length)))).2.1 (by decide) (by decide) ?_
      show Steps p.tables e below (T22.setTop (mkF m 16 #[.val (.ref b1), .val (.ref b2), .val (.int j), .val (.int (Int32.ofNat cs.length)), .unset, .unset] [])) _
      refine XS.iloadN X22.here hx rfl (hb hby d37_16) rfl ?_
      show Steps p.tables e below (T22.setTop (mkF m 17 #[.val (.ref b1), .val (.ref b2), .val (.int j), .val (.int (Int32.ofNat cs.length)), .unset, .unset] [(.int j)])) _
      refine XS.iloadN X22.here hx rfl (hb hby d37_17) rfl ?_
      show Steps p.tables e below (T22.setTop (mkF m 18 #[.val (.ref b1), .val (.ref b2), .val (.int j), .val (.int (Int32.ofNat cs.length)), .unset, .unset] [(.int (Int32.ofNat cs.length)), (.int j)])) _
      refine XS.isub X22.here hx rfl (hb hby d37_18) rfl ?_
      show Steps p.tables e below (T22.setTop (mkF m 19 #[.val (.ref b1), .val (.ref b2), .val (.int j), .val (.int (Int32.ofNat cs.length)), .unset, .unset] [(.int (j - (Int32.ofNat cs.length)))])) _
      exact kt)
    have hv25 : (j - (Int32.ofNat cs.length)) = (Int32.ofNat (k - cs.length)) := own_sub1 hj hk hcs (by omega)
    have pre25 : ∀ t, Steps p.tables e below (T22.setTop (mkF m 19 #[.val (.ref b1), .val (.ref b2), .val (.int j), .val (.int (Int32.ofNat cs.length)), .unset, .unset] [(.int (Int32.ofNat (k - cs.length)))])) t → Steps p.tables e below (s₁.setTop (entryFrame m #[(.ref b1), (.ref b2), (.int j)] 6)) t := fun t kt => pre24 t (by rw [hv25]; exact kt)
    have pre26 : ∀ t, Steps p.tables e below (T22.setTop (mkF m 41 #[.val (.ref b1), .val (.ref b2), .val (.int j), .val (.int (Int32.ofNat cs.length)), .val (.int (Int32.ofNat (k - cs.length))), .unset] [(.int ((Int32.ofNat (k - cs.length)) - (7 : Int32)))])) t → Steps p.tables e below (s₁.setTop (entryFrame m #[(.ref b1), (.ref b2), (.int j)] 6)) t := fun t kt => pre25 t (by
      refine XS.istore X22.here hx rfl (hb hby d37_19) rfl (l' := #[.val (.ref b1), .val (.ref b2), .val (.int j), .val (.int (Int32.ofNat cs.length)), .val (.int (Int32.ofNat (k - cs.length))), .unset]) rfl ?_
      show Steps p.tables e below (T22.setTop (mkF m 21 #[.val (.ref b1), .val (.ref b2), .val (.int j), .val (.int (Int32.ofNat cs.length)), .val (.int (Int32.ofNat (k - cs.length))), .unset] [])) _
      refine XS.iload X22.here hx rfl (hb hby d37_21) rfl ?_
      show Steps p.tables e below (T22.setTop (mkF m 23 #[.val (.ref b1), .val (.ref b2), .val (.int j), .val (.int (Int32.ofNat cs.length)), .val (.int (Int32.ofNat (k - cs.length))), .unset] [(.int (Int32.ofNat (k - cs.length)))])) _
      refine XS.bipush X22.here hx rfl (hb hby d37_23) ?_
      show Steps p.tables e below (T22.setTop (mkF m 25 #[.val (.ref b1), .val (.ref b2), .val (.int j), .val (.int (Int32.ofNat cs.length)), .val (.int (Int32.ofNat (k - cs.length))), .unset] [(.int (7 : Int32)), (.int (Int32.ofNat (k - cs.length)))])) _
      refine XS.icmpYes X22.here hx rfl (pc0 := 25) (pc' := 36) rfl (hb hby d37_25) rfl (flt (own_lt2n hk (by omega) : ¬ ((Int32.ofNat (k - cs.length)) < (7 : Int32)))).2.1 (by decide) (by decide) ?_
      show Steps p.tables e below (T22.setTop (mkF m 36 #[.val (.ref b1), .val (.ref b2), .val (.int j), .val (.int (Int32.ofNat cs.length)), .val (.int (Int32.ofNat (k - cs.length))), .unset] [])) _
      refine XS.iload X22.here hx rfl (hb hby d37_36) rfl ?_
      show Steps p.tables e below (T22.setTop (mkF m 38 #[.val (.ref b1), .val (.ref b2), .val (.int j), .val (.int (Int32.ofNat cs.length)), .val (.int (Int32.ofNat (k - cs.length))), .unset] [(.int (Int32.ofNat (k - cs.length)))])) _
      refine XS.bipush X22.here hx rfl (hb hby d37_38) ?_
      show Steps p.tables e below (T22.setTop (mkF m 40 #[.val (.ref b1), .val (.ref b2), .val (.int j), .val (.int (Int32.ofNat cs.length)), .val (.int (Int32.ofNat (k - cs.length))), .unset] [(.int (7 : Int32)), (.int (Int32.ofNat (k - cs.length)))])) _
      refine XS.isub X22.here hx rfl (hb hby d37_40) rfl ?_
      show Steps p.tables e below (T22.setTop (mkF m 41 #[.val (.ref b1), .val (.ref b2), .val (.int j), .val (.int (Int32.ofNat cs.length)), .val (.int (Int32.ofNat (k - cs.length))), .unset] [(.int ((Int32.ofNat (k - cs.length)) - (7 : Int32)))])) _
      exact kt)
    have hv27 : ((Int32.ofNat (k - cs.length)) - (7 : Int32)) = (Int32.ofNat (k - cs.length - 7)) := own_sub2 hk (by omega)
    have pre27 : ∀ t, Steps p.tables e below (T22.setTop (mkF m 41 #[.val (.ref b1), .val (.ref b2), .val (.int j), .val (.int (Int32.ofNat cs.length)), .val (.int (Int32.ofNat (k - cs.length))), .unset] [(.int (Int32.ofNat (k - cs.length - 7)))])) t → Steps p.tables e below (s₁.setTop (entryFrame m #[(.ref b1), (.ref b2), (.int j)] 6)) t := fun t kt => pre26 t (by rw [hv27]; exact kt)
    have pre28 : ∀ t, Steps p.tables e below (T22.setTop (mkF m 46 #[.val (.ref b1), .val (.ref b2), .val (.int j), .val (.int (Int32.ofNat cs.length)), .val (.int (Int32.ofNat (k - cs.length))), .val (.int (Int32.ofNat (k - cs.length - 7)))] [(.ref b2), (.int (Int32.ofNat (k - cs.length - 7)))])) t → Steps p.tables e below (s₁.setTop (entryFrame m #[(.ref b1), (.ref b2), (.int j)] 6)) t := fun t kt => pre27 t (by
      refine XS.istore X22.here hx rfl (hb hby d37_41) rfl (l' := #[.val (.ref b1), .val (.ref b2), .val (.int j), .val (.int (Int32.ofNat cs.length)), .val (.int (Int32.ofNat (k - cs.length))), .val (.int (Int32.ofNat (k - cs.length - 7)))]) rfl ?_
      show Steps p.tables e below (T22.setTop (mkF m 43 #[.val (.ref b1), .val (.ref b2), .val (.int j), .val (.int (Int32.ofNat cs.length)), .val (.int (Int32.ofNat (k - cs.length))), .val (.int (Int32.ofNat (k - cs.length - 7)))] [])) _
      refine XS.iload X22.here hx rfl (hb hby d37_43) rfl ?_
      show Steps p.tables e below (T22.setTop (mkF m 45 #[.val (.ref b1), .val (.ref b2), .val (.int j), .val (.int (Int32.ofNat cs.length)), .val (.int (Int32.ofNat (k - cs.length))), .val (.int (Int32.ofNat (k - cs.length - 7)))] [(.int (Int32.ofNat (k - cs.length - 7)))])) _
      refine XS.aloadN X22.here hx rfl (hb hby d37_45) rfl rfl ?_
      show Steps p.tables e below (T22.setTop (mkF m 46 #[.val (.ref b1), .val (.ref b2), .val (.int j), .val (.int (Int32.ofNat cs.length)), .val (.int (Int32.ofNat (k - cs.length))), .val (.int (Int32.ofNat (k - cs.length - 7)))] [(.ref b2), (.int (Int32.ofNat (k - cs.length - 7)))])) _
      exact kt)
    obtain ⟨cq29, kq29, q29a, q29b, q29c⟩ := isOf hZ e22q (Sv0)
    obtain ⟨_, _, ⟨T29, L29, k29, n29⟩, -, X29, ⟨Lc29, hQ29, l29, y29, z29⟩, st29⟩ := X22.virtualBack hx (y := (⟨"java/lang/String", "length", "()I"⟩ : MethodName)) (z := (⟨"java/lang/String", "length", "()I"⟩ : MethodName)) hown (mvT hZ (hw _ (List.mem_of_getElem? (i := 224) rfl))) (mvT hZ (hw _ (List.mem_of_getElem? (i := 79) rfl))) (notFace_of_selects (args := #[]) (mvT hZ (hw _ (List.mem_of_getElem? (i := 81) rfl)))) (mvT hZ (hw _ (List.mem_of_getElem? (i := 81) rfl))) (mvT hZ (hw _ (List.mem_of_getElem? (i := 80) rfl))) (by decide) (backOf (W := 1) (rmLs l Z a0 hw [] b2 c2 _ _ z0 _ h0 n0 Z0 Sv0 Sv1 Sv2 Sv3 O0 S0 hz) hZ (hw _ (List.mem_of_getElem? (i := 82) rfl)) (hw _ (List.mem_of_getElem? (i := 6) rfl)) (by decide) (by decide)) q29a q29c (g := (mkF m 46 #[.val (.ref b1), .val (.ref b2), .val (.int j), .val (.int (Int32.ofNat cs.length)), .val (.int (Int32.ofNat (k - cs.length))), .val (.int (Int32.ofNat (k - cs.length - 7)))] [(.ref b2), (.int (Int32.ofNat (k - cs.length - 7)))])) rfl (by rw [hml]; rfl) (Steps.refl _) (argsL := []) (rest := [(.int (Int32.ofNat (k - cs.length - 7)))]) (lenOf pd__28_29I rfl) rfl (by show 2 * 0 + _ ≤ _; exact Nat.le_of_eq rfl) (hb hby d37_46) (fun _ _ => ⟨rfl, e22q, (by decide : 0 + 0 ≤ _), (by decide : 0 + 0 ≤ _)⟩)
    dsimp only [Pt.U, Pt.locs, Pt.cells, Pt.slots] at X29 l29 y29 z29 st29 hQ29
    subst l29 y29 z29
    obtain ⟨rfl, N29q, e29q⟩ := hQ29
    have N29 := Fr.app N22 N29q
    have pre30 : ∀ t, Steps p.tables e below (T29.setTop (mkF m 49 #[.val (.ref b1), .val (.ref b2), .val (.int j), .val (.int (Int32.ofNat cs.length)), .val (.int (Int32.ofNat (k - cs.length))), .val (.int (Int32.ofNat (k - cs.length - 7)))] [(.int (Int32.ofNat ds.length)), (.int (Int32.ofNat (k - cs.length - 7)))])) t → Steps p.tables e below (s₁.setTop (entryFrame m #[(.ref b1), (.ref b2), (.int j)] 6)) t := fun t kt => pre28 t (st29.trans kt)
    have pre31 : ∀ t, Steps p.tables e below (T29.setTop (mkF m 55 #[.val (.ref b1), .val (.ref b2), .val (.int j), .val (.int (Int32.ofNat cs.length)), .val (.int (Int32.ofNat (k - cs.length))), .val (.int (Int32.ofNat (k - cs.length - 7)))] [(.int (Int32.ofNat (k - cs.length - 7))), (.ref b2)])) t → Steps p.tables e below (s₁.setTop (entryFrame m #[(.ref b1), (.ref b2), (.int j)] 6)) t := fun t kt => pre30 t (by
      refine XS.icmpNo X29.here hx rfl (hb hby d37_49) rfl (tlt (own_lt3 hk hds c0_1 : (Int32.ofNat (k - cs.length - 7)) < (Int32.ofNat ds.length))).2.1 ?_
      show Steps p.tables e below (T29.setTop (mkF m 52 #[.val (.ref b1), .val (.ref b2), .val (.int j), .val (.int (Int32.ofNat cs.length)), .val (.int (Int32.ofNat (k - cs.length))), .val (.int (Int32.ofNat (k - cs.length - 7)))] [])) _
      refine XS.aloadN X29.here hx rfl (hb hby d37_52) rfl rfl ?_
      show Steps p.tables e below (T29.setTop (mkF m 53 #[.val (.ref b1), .val (.ref b2), .val (.int j), .val (.int (Int32.ofNat cs.length)), .val (.int (Int32.ofNat (k - cs.length))), .val (.int (Int32.ofNat (k - cs.length - 7)))] [(.ref b2)])) _
      refine XS.iload X29.here hx rfl (hb hby d37_53) rfl ?_
      show Steps p.tables e below (T29.setTop (mkF m 55 #[.val (.ref b1), .val (.ref b2), .val (.int j), .val (.int (Int32.ofNat cs.length)), .val (.int (Int32.ofNat (k - cs.length))), .val (.int (Int32.ofNat (k - cs.length - 7)))] [(.int (Int32.ofNat (k - cs.length - 7))), (.ref b2)])) _
      exact kt)
    obtain ⟨cq32, kq32, q32a, q32b, q32c⟩ := isOf hZ e29q (Sv0)
    obtain ⟨_, _, ⟨T32, L32, k32, n32⟩, -, X32, ⟨Lc32, hQ32, l32, y32, z32⟩, st32⟩ := X29.virtualBack hx (y := (⟨"java/lang/String", "charAt", "(I)C"⟩ : MethodName)) (z := (⟨"java/lang/String", "charAt", "(I)C"⟩ : MethodName)) hown (mvT hZ (hw _ (List.mem_of_getElem? (i := 232) rfl))) (mvT hZ (hw _ (List.mem_of_getElem? (i := 233) rfl))) (notFace_of_selects (args := #[]) (mvT hZ (hw _ (List.mem_of_getElem? (i := 235) rfl)))) (mvT hZ (hw _ (List.mem_of_getElem? (i := 235) rfl))) (mvT hZ (hw _ (List.mem_of_getElem? (i := 234) rfl))) (by decide) (StrChars.Road.chN (W := 0) hZ hwc (kI := 4) (hw _ (List.mem_of_getElem? (i := 5) rfl)) (cs := ds) (i := (k - cs.length - 7)) (j := (Int32.ofNat (k - cs.length - 7))) Sv0 Sv1 Sv2 Sv3 (StrChars.Road.codOf rfl (fun c q => (lds c q).2)) (fun c q => ⟨(lds c q).1, own_65 (lds c q).2⟩) (S0.ext (O0).2) hz (S1.ext (O0).2) hfm (own_4000 hds) c0_1 rfl (by decide) (by decide)) q32a q32c (g := (mkF m 55 #[.val (.ref b1), .val (.ref b2), .val (.int j), .val (.int (Int32.ofNat cs.length)), .val (.int (Int32.ofNat (k - cs.length))), .val (.int (Int32.ofNat (k - cs.length - 7)))] [(.int (Int32.ofNat (k - cs.length - 7))), (.ref b2)])) rfl (by rw [hml]; rfl) (Steps.refl _) (argsL := [(.int (Int32.ofNat (k - cs.length - 7)))]) (rest := []) (lenOf pd__28I_29C rfl) rfl (by show 2 * 0 + _ ≤ _; exact Nat.le_of_eq rfl) (hb hby d37_55) (fun _ _ => ⟨rfl, e29q, (by decide : 0 + 0 ≤ _), (by decide : 0 + 0 ≤ _)⟩)
    dsimp only [Pt.U, Pt.locs, Pt.cells, Pt.slots] at X32 l32 y32 z32 st32 hQ32
    subst l32 y32 z32
    obtain ⟨rfl, rfl, e32q⟩ := hQ32
    have N32q : Fr n0 [] := Fr.nil n0
    have N32 := Fr.app N29 N32q
    have pre33 : ∀ t, Steps p.tables e below (T32.setTop (mkF m 58 #[.val (.ref b1), .val (.ref b2), .val (.int j), .val (.int (Int32.ofNat cs.length)), .val (.int (Int32.ofNat (k - cs.length))), .val (.int (Int32.ofNat (k - cs.length - 7)))] [(.int (ds.getD (k - cs.length - 7) 0))])) t → Steps p.tables e below (s₁.setTop (entryFrame m #[(.ref b1), (.ref b2), (.int j)] 6)) t := fun t kt => pre31 t (st32.trans kt)
    have hv34 : (ds.getD (k - cs.length - 7) 0) = (own_exp cs ds k) := own_e3 (by omega) (by omega) c0_1
    have pre34 : ∀ t, Steps p.tables e below (T32.setTop (mkF m 58 #[.val (.ref b1), .val (.ref b2), .val (.int j), .val (.int (Int32.ofNat cs.length)), .val (.int (Int32.ofNat (k - cs.length))), .val (.int (Int32.ofNat (k - cs.length - 7)))] [(.int (own_exp cs ds k))])) t → Steps p.tables e below (s₁.setTop (entryFrame m #[(.ref b1), (.ref b2), (.int j)] 6)) t := fun t kt => pre33 t (by rw [hv34]; exact kt)
    have sf36 : ∀ y ∈ ([] : List Addr), Safe Z own_EL s.vm h0 y := sf0
    have ch36 : CHr Z own_EL s.vm h0 s.vm h0 := CHr.trans (CHr.refl hI) (CHr.keep (Keep.refl h0 []) sf36 ((CHr.refl hI)).1)
    have hCf : CHr Z own_EL s.vm s.heap T32.vm T32.heap := by
      rw [hh, e32q]
      exact CHr.trans ch36 (CHv.at (s := s) (vm0 := s.vm) X32 hZ (own_EW hw) (ch36).1)
    obtain ⟨fs, hr, hrun, hended, hW, hsame⟩ := X32.leave (v := (some (.int (own_exp cs ds k)))) (fun h => by rw [Bd.returns] at h; cases h)
    refine ⟨_, _, pre34 _ ?_, hrun, hended, _, _, rfl, ?_, hCf, ReturnedEndW.of_narrow ⟨_, rfl⟩ hW (hsame.mono (by decide) (by decide))⟩
    · exact retI X32 hx Bd.returns (hb hby d37_58) hr
    · show QXa Z cs ds k h0 n0 _ T32.heap _
      rw [e32q]
      exact ⟨rfl, N32, (Keep.refl h0 [])⟩
  · have pre37 : ∀ t, Steps p.tables e below (s₁.setTop (mkF m 1 #[.val (.ref b1), .val (.ref b2), .val (.int j), .unset, .unset, .unset] [(.ref b1)])) t → Steps p.tables e below (s₁.setTop (entryFrame m #[(.ref b1), (.ref b2), (.int j)] 6)) t := fun t kt => pre0 t (by
      refine XS.aloadN X0.here hx rfl (hb hby d37_0) rfl rfl ?_
      show Steps p.tables e below (s₁.setTop (mkF m 1 #[.val (.ref b1), .val (.ref b2), .val (.int j), .unset, .unset, .unset] [(.ref b1)])) _
      exact kt)
    obtain ⟨cq38, kq38, q38a, q38b, q38c⟩ := isOf hZ e0 (Sn0)
    obtain ⟨_, _, ⟨T38, L38, k38, n38⟩, -, X38, ⟨Lc38, hQ38, l38, y38, z38⟩, st38⟩ := X0.virtualBack hx (y := (⟨"java/lang/String", "length", "()I"⟩ : MethodName)) (z := (⟨"java/lang/String", "length", "()I"⟩ : MethodName)) hown (mvT hZ (hw _ (List.mem_of_getElem? (i := 224) rfl))) (mvT hZ (hw _ (List.mem_of_getElem? (i := 79) rfl))) (notFace_of_selects (args := #[]) (mvT hZ (hw _ (List.mem_of_getElem? (i := 81) rfl)))) (mvT hZ (hw _ (List.mem_of_getElem? (i := 81) rfl))) (mvT hZ (hw _ (List.mem_of_getElem? (i := 80) rfl))) (by decide) (backOf (W := 0) (rmLs l Z a0 hw [] b1 c1 _ _ z0 _ h0 n0 Z0 Sn0 Sn1 Sn2 Sn3 O0 S0 hz) hZ (hw _ (List.mem_of_getElem? (i := 82) rfl)) (hw _ (List.mem_of_getElem? (i := 6) rfl)) (by decide) (by decide)) q38a q38c (g := (mkF m 1 #[.val (.ref b1), .val (.ref b2), .val (.int j), .unset, .unset, .unset] [(.ref b1)])) rfl (by rw [hml]; rfl) (Steps.refl _) (argsL := []) (rest := []) (lenOf pd__28_29I rfl) rfl (by show 2 * 0 + _ ≤ _; exact Nat.le_of_eq rfl) (hb hby d37_1) (fun _ _ => ⟨rfl, e0, (by decide : 0 + 0 ≤ _), (by decide : 0 + 0 ≤ _)⟩)
    dsimp only [Pt.U, Pt.locs, Pt.cells, Pt.slots] at X38 l38 y38 z38 st38 hQ38
    subst l38 y38 z38
    obtain ⟨rfl, N38q, e38q⟩ := hQ38
    have N38 := Fr.app N0 N38q
    have pre39 : ∀ t, Steps p.tables e below (T38.setTop (mkF m 4 #[.val (.ref b1), .val (.ref b2), .val (.int j), .unset, .unset, .unset] [(.int (Int32.ofNat cs.length))])) t → Steps p.tables e below (s₁.setTop (entryFrame m #[(.ref b1), (.ref b2), (.int j)] 6)) t := fun t kt => pre37 t (st38.trans kt)
    have pre40 : ∀ t, Steps p.tables e below (T38.setTop (mkF m 19 #[.val (.ref b1), .val (.ref b2), .val (.int j), .val (.int (Int32.ofNat cs.length)), .unset, .unset] [(.int (j - (Int32.ofNat cs.length)))])) t → Steps p.tables e below (s₁.setTop (entryFrame m #[(.ref b1), (.ref b2), (.int j)] 6)) t := fun t kt => pre39 t (by
      refine XS.istoreN X38.here hx rfl (hb hby d37_4) rfl (l' := #[.val (.ref b1), .val (.ref b2), .val (.int j), .val (.int (Int32.ofNat cs.length)), .unset, .unset]) rfl ?_
      show Steps p.tables e below (T38.setTop (mkF m 5 #[.val (.ref b1), .val (.ref b2), .val (.int j), .val (.int (Int32.ofNat cs.length)), .unset, .unset] [])) _
      refine XS.iloadN X38.here hx rfl (hb hby d37_5) rfl ?_
      show Steps p.tables e below (T38.setTop (mkF m 6 #[.val (.ref b1), .val (.ref b2), .val (.int j), .val (.int (Int32.ofNat cs.length)), .unset, .unset] [(.int j)])) _
      refine XS.iloadN X38.here hx rfl (hb hby d37_6) rfl ?_
      show Steps p.tables e below (T38.setTop (mkF m 7 #[.val (.ref b1), .val (.ref b2), .val (.int j), .val (.int (Int32.ofNat cs.length)), .unset, .unset] [(.int (Int32.ofNat cs.length)), (.int j)])) _
      refine XS.icmpYes X38.here hx rfl (pc0 := 7) (pc' := 16) rfl (hb hby d37_7) rfl (flt (own_lt1n hj hk hcs (by omega) : ¬ (j < (Int32.ofNat cs.length)))).2.1 (by decide) (by decide) ?_
      show Steps p.tables e below (T38.setTop (mkF m 16 #[.val (.ref b1), .val (.ref b2), .val (.int j), .val (.int (Int32.ofNat cs.length)), .unset, .unset] [])) _
      refine XS.iloadN X38.here hx rfl (hb hby d37_16) rfl ?_
      show Steps p.tables e below (T38.setTop (mkF m 17 #[.val (.ref b1), .val (.ref b2), .val (.int j), .val (.int (Int32.ofNat cs.length)), .unset, .unset] [(.int j)])) _
      refine XS.iloadN X38.here hx rfl (hb hby d37_17) rfl ?_
      show Steps p.tables e below (T38.setTop (mkF m 18 #[.val (.ref b1), .val (.ref b2), .val (.int j), .val (.int (Int32.ofNat cs.length)), .unset, .unset] [(.int (Int32.ofNat cs.length)), (.int j)])) _
      refine XS.isub X38.here hx rfl (hb hby d37_18) rfl ?_
      show Steps p.tables e below (T38.setTop (mkF m 19 #[.val (.ref b1), .val (.ref b2), .val (.int j), .val (.int (Int32.ofNat cs.length)), .unset, .unset] [(.int (j - (Int32.ofNat cs.length)))])) _
      exact kt)
    have hv41 : (j - (Int32.ofNat cs.length)) = (Int32.ofNat (k - cs.length)) := own_sub1 hj hk hcs (by omega)
    have pre41 : ∀ t, Steps p.tables e below (T38.setTop (mkF m 19 #[.val (.ref b1), .val (.ref b2), .val (.int j), .val (.int (Int32.ofNat cs.length)), .unset, .unset] [(.int (Int32.ofNat (k - cs.length)))])) t → Steps p.tables e below (s₁.setTop (entryFrame m #[(.ref b1), (.ref b2), (.int j)] 6)) t := fun t kt => pre40 t (by rw [hv41]; exact kt)
    have pre42 : ∀ t, Steps p.tables e below (T38.setTop (mkF m 41 #[.val (.ref b1), .val (.ref b2), .val (.int j), .val (.int (Int32.ofNat cs.length)), .val (.int (Int32.ofNat (k - cs.length))), .unset] [(.int ((Int32.ofNat (k - cs.length)) - (7 : Int32)))])) t → Steps p.tables e below (s₁.setTop (entryFrame m #[(.ref b1), (.ref b2), (.int j)] 6)) t := fun t kt => pre41 t (by
      refine XS.istore X38.here hx rfl (hb hby d37_19) rfl (l' := #[.val (.ref b1), .val (.ref b2), .val (.int j), .val (.int (Int32.ofNat cs.length)), .val (.int (Int32.ofNat (k - cs.length))), .unset]) rfl ?_
      show Steps p.tables e below (T38.setTop (mkF m 21 #[.val (.ref b1), .val (.ref b2), .val (.int j), .val (.int (Int32.ofNat cs.length)), .val (.int (Int32.ofNat (k - cs.length))), .unset] [])) _
      refine XS.iload X38.here hx rfl (hb hby d37_21) rfl ?_
      show Steps p.tables e below (T38.setTop (mkF m 23 #[.val (.ref b1), .val (.ref b2), .val (.int j), .val (.int (Int32.ofNat cs.length)), .val (.int (Int32.ofNat (k - cs.length))), .unset] [(.int (Int32.ofNat (k - cs.length)))])) _
      refine XS.bipush X38.here hx rfl (hb hby d37_23) ?_
      show Steps p.tables e below (T38.setTop (mkF m 25 #[.val (.ref b1), .val (.ref b2), .val (.int j), .val (.int (Int32.ofNat cs.length)), .val (.int (Int32.ofNat (k - cs.length))), .unset] [(.int (7 : Int32)), (.int (Int32.ofNat (k - cs.length)))])) _
      refine XS.icmpYes X38.here hx rfl (pc0 := 25) (pc' := 36) rfl (hb hby d37_25) rfl (flt (own_lt2n hk (by omega) : ¬ ((Int32.ofNat (k - cs.length)) < (7 : Int32)))).2.1 (by decide) (by decide) ?_
      show Steps p.tables e below (T38.setTop (mkF m 36 #[.val (.ref b1), .val (.ref b2), .val (.int j), .val (.int (Int32.ofNat cs.length)), .val (.int (Int32.ofNat (k - cs.length))), .unset] [])) _
      refine XS.iload X38.here hx rfl (hb hby d37_36) rfl ?_
      show Steps p.tables e below (T38.setTop (mkF m 38 #[.val (.ref b1), .val (.ref b2), .val (.int j), .val (.int (Int32.ofNat cs.length)), .val (.int (Int32.ofNat (k - cs.length))), .unset] [(.int (Int32.ofNat (k - cs.length)))])) _
      refine XS.bipush X38.here hx rfl (hb hby d37_38) ?_
      show Steps p.tables e below (T38.setTop (mkF m 40 #[.val (.ref b1), .val (.ref b2), .val (.int j), .val (.int (Int32.ofNat cs.length)), .val (.int (Int32.ofNat (k - cs.length))), .unset] [(.int (7 : Int32)), (.int (Int32.ofNat (k - cs.length)))])) _
      refine XS.isub X38.here hx rfl (hb hby d37_40) rfl ?_
      show Steps p.tables e below (T38.setTop (mkF m 41 #[.val (.ref b1), .val (.ref b2), .val (.int j), .val (.int (Int32.ofNat cs.length)), .val (.int (Int32.ofNat (k - cs.length))), .unset] [(.int ((Int32.ofNat (k - cs.length)) - (7 : Int32)))])) _
      exact kt)
    have hv43 : ((Int32.ofNat (k - cs.length)) - (7 : Int32)) = (Int32.ofNat (k - cs.length - 7)) := own_sub2 hk (by omega)
    have pre43 : ∀ t, Steps p.tables e below (T38.setTop (mkF m 41 #[.val (.ref b1), .val (.ref b2), .val (.int j), .val (.int (Int32.ofNat cs.length)), .val (.int (Int32.ofNat (k - cs.length))), .unset] [(.int (Int32.ofNat (k - cs.length - 7)))])) t → Steps p.tables e below (s₁.setTop (entryFrame m #[(.ref b1), (.ref b2), (.int j)] 6)) t := fun t kt => pre42 t (by rw [hv43]; exact kt)
    have pre44 : ∀ t, Steps p.tables e below (T38.setTop (mkF m 46 #[.val (.ref b1), .val (.ref b2), .val (.int j), .val (.int (Int32.ofNat cs.length)), .val (.int (Int32.ofNat (k - cs.length))), .val (.int (Int32.ofNat (k - cs.length - 7)))] [(.ref b2), (.int (Int32.ofNat (k - cs.length - 7)))])) t → Steps p.tables e below (s₁.setTop (entryFrame m #[(.ref b1), (.ref b2), (.int j)] 6)) t := fun t kt => pre43 t (by
      refine XS.istore X38.here hx rfl (hb hby d37_41) rfl (l' := #[.val (.ref b1), .val (.ref b2), .val (.int j), .val (.int (Int32.ofNat cs.length)), .val (.int (Int32.ofNat (k - cs.length))), .val (.int (Int32.ofNat (k - cs.length - 7)))]) rfl ?_
      show Steps p.tables e below (T38.setTop (mkF m 43 #[.val (.ref b1), .val (.ref b2), .val (.int j), .val (.int (Int32.ofNat cs.length)), .val (.int (Int32.ofNat (k - cs.length))), .val (.int (Int32.ofNat (k - cs.length - 7)))] [])) _
      refine XS.iload X38.here hx rfl (hb hby d37_43) rfl ?_
      show Steps p.tables e below (T38.setTop (mkF m 45 #[.val (.ref b1), .val (.ref b2), .val (.int j), .val (.int (Int32.ofNat cs.length)), .val (.int (Int32.ofNat (k - cs.length))), .val (.int (Int32.ofNat (k - cs.length - 7)))] [(.int (Int32.ofNat (k - cs.length - 7)))])) _
      refine XS.aloadN X38.here hx rfl (hb hby d37_45) rfl rfl ?_
      show Steps p.tables e below (T38.setTop (mkF m 46 #[.val (.ref b1), .val (.ref b2), .val (.int j), .val (.int (Int32.ofNat cs.length)), .val (.int (Int32.ofNat (k - cs.length))), .val (.int (Int32.ofNat (k - cs.length - 7)))] [(.ref b2), (.int (Int32.ofNat (k - cs.length - 7)))])) _
      exact kt)
    obtain ⟨cq45, kq45, q45a, q45b, q45c⟩ := isOf hZ e38q (Sv0)
    obtain ⟨_, _, ⟨T45, L45, k45, n45⟩, -, X45, ⟨Lc45, hQ45, l45, y45, z45⟩, st45⟩ := X38.virtualBack hx (y := (⟨"java/lang/String", "length", "()I"⟩ : MethodName)) (z := (⟨"java/lang/String", "length", "()I"⟩ : MethodName)) hown (mvT hZ (hw _ (List.mem_of_getElem? (i := 224) rfl))) (mvT hZ (hw _ (List.mem_of_getElem? (i := 79) rfl))) (notFace_of_selects (args := #[]) (mvT hZ (hw _ (List.mem_of_getElem? (i := 81) rfl)))) (mvT hZ (hw _ (List.mem_of_getElem? (i := 81) rfl))) (mvT hZ (hw _ (List.mem_of_getElem? (i := 80) rfl))) (by decide) (backOf (W := 1) (rmLs l Z a0 hw [] b2 c2 _ _ z0 _ h0 n0 Z0 Sv0 Sv1 Sv2 Sv3 O0 S0 hz) hZ (hw _ (List.mem_of_getElem? (i := 82) rfl)) (hw _ (List.mem_of_getElem? (i := 6) rfl)) (by decide) (by decide)) q45a q45c (g := (mkF m 46 #[.val (.ref b1), .val (.ref b2), .val (.int j), .val (.int (Int32.ofNat cs.length)), .val (.int (Int32.ofNat (k - cs.length))), .val (.int (Int32.ofNat (k - cs.length - 7)))] [(.ref b2), (.int (Int32.ofNat (k - cs.length - 7)))])) rfl (by rw [hml]; rfl) (Steps.refl _) (argsL := []) (rest := [(.int (Int32.ofNat (k - cs.length - 7)))]) (lenOf pd__28_29I rfl) rfl (by show 2 * 0 + _ ≤ _; exact Nat.le_of_eq rfl) (hb hby d37_46) (fun _ _ => ⟨rfl, e38q, (by decide : 0 + 0 ≤ _), (by decide : 0 + 0 ≤ _)⟩)
    dsimp only [Pt.U, Pt.locs, Pt.cells, Pt.slots] at X45 l45 y45 z45 st45 hQ45
    subst l45 y45 z45
    obtain ⟨rfl, N45q, e45q⟩ := hQ45
    have N45 := Fr.app N38 N45q
    have pre46 : ∀ t, Steps p.tables e below (T45.setTop (mkF m 49 #[.val (.ref b1), .val (.ref b2), .val (.int j), .val (.int (Int32.ofNat cs.length)), .val (.int (Int32.ofNat (k - cs.length))), .val (.int (Int32.ofNat (k - cs.length - 7)))] [(.int (Int32.ofNat ds.length)), (.int (Int32.ofNat (k - cs.length - 7)))])) t → Steps p.tables e below (s₁.setTop (entryFrame m #[(.ref b1), (.ref b2), (.int j)] 6)) t := fun t kt => pre44 t (st45.trans kt)
    have pre47 : ∀ t, Steps p.tables e below (T45.setTop (mkF m 60 #[.val (.ref b1), .val (.ref b2), .val (.int j), .val (.int (Int32.ofNat cs.length)), .val (.int (Int32.ofNat (k - cs.length))), .val (.int (Int32.ofNat (k - cs.length - 7)))] [(.int (-1 : Int32))])) t → Steps p.tables e below (s₁.setTop (entryFrame m #[(.ref b1), (.ref b2), (.int j)] 6)) t := fun t kt => pre46 t (by
      refine XS.icmpYes X45.here hx rfl (pc0 := 49) (pc' := 59) rfl (hb hby d37_49) rfl (flt (own_lt3n hk hds c0_1 : ¬ ((Int32.ofNat (k - cs.length - 7)) < (Int32.ofNat ds.length)))).2.1 (by decide) (by decide) ?_
      show Steps p.tables e below (T45.setTop (mkF m 59 #[.val (.ref b1), .val (.ref b2), .val (.int j), .val (.int (Int32.ofNat cs.length)), .val (.int (Int32.ofNat (k - cs.length))), .val (.int (Int32.ofNat (k - cs.length - 7)))] [])) _
      refine XS.iconst X45.here hx rfl (hb hby d37_59) ?_
      show Steps p.tables e below (T45.setTop (mkF m 60 #[.val (.ref b1), .val (.ref b2), .val (.int j), .val (.int (Int32.ofNat cs.length)), .val (.int (Int32.ofNat (k - cs.length))), .val (.int (Int32.ofNat (k - cs.length - 7)))] [(.int (-1 : Int32))])) _
      exact kt)
    have hv48 : (-1 : Int32) = (own_exp cs ds k) := own_e4 (by omega) (by omega) c0_1
    have pre48 : ∀ t, Steps p.tables e below (T45.setTop (mkF m 60 #[.val (.ref b1), .val (.ref b2), .val (.int j), .val (.int (Int32.ofNat cs.length)), .val (.int (Int32.ofNat (k - cs.length))), .val (.int (Int32.ofNat (k - cs.length - 7)))] [(.int (own_exp cs ds k))])) t → Steps p.tables e below (s₁.setTop (entryFrame m #[(.ref b1), (.ref b2), (.int j)] 6)) t := fun t kt => pre47 t (by rw [hv48]; exact kt)
    have sf50 : ∀ y ∈ ([] : List Addr), Safe Z own_EL s.vm h0 y := sf0
    have ch50 : CHr Z own_EL s.vm h0 s.vm h0 := CHr.trans (CHr.refl hI) (CHr.keep (Keep.refl h0 []) sf50 ((CHr.refl hI)).1)
    have hCf : CHr Z own_EL s.vm s.heap T45.vm T45.heap := by
      rw [hh, e45q]
      exact CHr.trans ch50 (CHv.at (s := s) (vm0 := s.vm) X45 hZ (own_EW hw) (ch50).1)
    obtain ⟨fs, hr, hrun, hended, hW, hsame⟩ := X45.leave (v := (some (.int (own_exp cs ds k)))) (fun h => by rw [Bd.returns] at h; cases h)
    refine ⟨_, _, pre48 _ ?_, hrun, hended, _, _, rfl, ?_, hCf, ReturnedEndW.of_narrow ⟨_, rfl⟩ hW (hsame.mono (by decide) (by decide))⟩
    · exact retI X45 hx Bd.returns (hb hby d37_60) hr
    · show QXa Z cs ds k h0 n0 _ T45.heap _
      rw [e45q]
      exact ⟨rfl, N45, (Keep.refl h0 [])⟩
def QOk (Z : State) (h0 : Heap) (n0 : Nat) (v : Option Value) (h : Heap) (L : List Loc) : Prop := v = some (.int (1 : Int32)) ∧ Fr n0 L ∧ Keep h0 h []
theorem ef_rmOk (m : MethodId) (x0 : Addr) (x1 : Addr) (x2 : Addr) (x3 : Int32) : entryFrame m #[(.ref x0), (.ref x1), (.ref x2), (.int x3)] 6 = mkF m 0 #[.val (.ref x0), .val (.ref x1), .val (.ref x2), .val (.int x3), .unset, .unset] [] := by first | (simp [entryFrame, mkF, argsToLocals, Value.category]; done) | rfl
theorem d36_0 : decode method_3_code 0 = .ok (.aload_n 1, 1) := by decide +kernel
theorem d36_1 : decode method_3_code 1 = .ok (.aload_n 2, 1) := by decide +kernel
theorem d36_2 : decode method_3_code 2 = .ok (.iload_n 3, 1) := by decide +kernel
theorem pd__28Ljava_2flang_2fString_3bLjava_2flang_2fString_3bI_29I : parseMethodDescriptor "(Ljava/lang/String;Ljava/lang/String;I)I" = some ⟨[(.object "java/lang/String"), (.object "java/lang/String"), .int], some .int⟩ := by decide +kernel
theorem d36_3 : decode method_3_code 3 = .ok (.invokestatic 38, 3) := by decide +kernel
theorem d36_6 : decode method_3_code 6 = .ok (.istore 4, 2) := by decide +kernel
theorem d36_8 : decode method_3_code 8 = .ok (.iload_n 3, 1) := by decide +kernel
theorem d36_9 : decode method_3_code 9 = .ok (.aload_n 0, 1) := by decide +kernel
theorem d36_10 : decode method_3_code 10 = .ok (.invokevirtual 28, 3) := by decide +kernel
theorem d36_13 : decode method_3_code 13 = .ok (.if_icmp .ge 11, 3) := by decide +kernel
theorem d36_16 : decode method_3_code 16 = .ok (.aload_n 0, 1) := by decide +kernel
theorem d36_17 : decode method_3_code 17 = .ok (.iload_n 3, 1) := by decide +kernel
theorem d36_18 : decode method_3_code 18 = .ok (.invokevirtual 42, 3) := by decide +kernel
theorem d36_21 : decode method_3_code 21 = .ok (.goto 4, 3) := by decide +kernel
theorem d36_25 : decode method_3_code 25 = .ok (.istore 5, 2) := by decide +kernel
theorem d36_27 : decode method_3_code 27 = .ok (.iload 4, 2) := by decide +kernel
theorem d36_29 : decode method_3_code 29 = .ok (.iload 5, 2) := by decide +kernel
theorem d36_31 : decode method_3_code 31 = .ok (.if_icmp .ne 7, 3) := by decide +kernel
theorem d36_34 : decode method_3_code 34 = .ok (.iconst 1, 1) := by decide +kernel
theorem d36_35 : decode method_3_code 35 = .ok (.goto 4, 3) := by decide +kernel
theorem d36_39 : decode method_3_code 39 = .ok (.ireturn, 1) := by decide +kernel
theorem d36_24 : decode method_3_code 24 = .ok (.iconst (-1), 1) := by decide +kernel
set_option maxRecDepth 65536 in
set_option maxHeartbeats 40000000 in
theorem rmOk (l : Launch) (Z : State) (a0 : Array Value) (hw : ∀ d ∈ tables_1, d.before a0 Z = true) (ws : List Jvm.Cond) (b0 b1 b2 c0 c1 c2 : Addr) (k0 k1 k2 : ClassId) (cs ds : List Int32) (k : Nat) (j z0 : Int32) (fm : Value) (h0 : Heap) (n0 : Nat) (Z0 : n0 ≤ h0.size) (Sm0 : Exa Z h0 b0 "java/lang/String") (Sm1 : Fld Z h0 b0 "java/lang/String" "value" "[B" (.ref c0)) (Sm2 : Fld Z h0 b0 "java/lang/String" "coder" "B" (.int (0 : Int32))) (Sm3 : Arv Z h0 c0 k0 .byte (Int32.ofNat (own_M cs ds).length) (own_B (own_M cs ds)) (.int (0 : Int32))) (Sn0 : Exa Z h0 b1 "java/lang/String") (Sn1 : Fld Z h0 b1 "java/lang/String" "value" "[B" (.ref c1)) (Sn2 : Fld Z h0 b1 "java/lang/String" "coder" "B" (.int (0 : Int32))) (Sn3 : Arv Z h0 c1 k1 .byte (Int32.ofNat cs.length) (own_B cs) (.int (0 : Int32))) (Sv0 : Exa Z h0 b2 "java/lang/String") (Sv1 : Fld Z h0 b2 "java/lang/String" "value" "[B" (.ref c2)) (Sv2 : Fld Z h0 b2 "java/lang/String" "coder" "B" (.int (0 : Int32))) (Sv3 : Arv Z h0 c2 k2 .byte (Int32.ofNat ds.length) (own_B ds) (.int (0 : Int32))) (hcs : cs.length ≤ 3) (hds : ds.length ≤ 3) (lcs : ∀ c ∈ cs, ¬ c < 0 ∧ ¬ (255 : Int32) < c) (lds : ∀ c ∈ ds, ¬ c < 0 ∧ ¬ (255 : Int32) < c) (hj : j = Int32.ofNat k) (hk : k ≤ 12) (O0 : OldL Z n0 h0) (S0 : Sta Z Z.heap "java/lang/String" "COMPACT_STRINGS" "Z" (.int z0)) (hz : ¬ z0 = (0 : Int32)) (S1 : Sta Z Z.heap "jdk/internal/util/Preconditions" "SIOOBE_FORMATTER" "Ljava/util/function/BiFunction;" fm) (hfm : fm.isRef = true) :
    MetFree l (⟨"kakehashi/cli/OptionMissingPinLaw", "ok", "(Ljava/lang/String;Ljava/lang/String;Ljava/lang/String;I)Z"⟩ : MethodName) (head1 (Jvm.Cond.code (⟨"kakehashi/cli/OptionMissingPinLaw", "ok", "(Ljava/lang/String;Ljava/lang/String;Ljava/lang/String;I)Z"⟩ : MethodName) method_3_code 6 (some .boolean) :: ws) ({ frames := 5, cells := 2, slots := 32, locals := 70 } : Room)) (fun a U => a = #[(.ref b0), (.ref b1), (.ref b2), (.int j)] ∧ Z.Warmed39 U.vm ∧ U.heap = h0 ∧ CHv Z own_EL U.vm h0) (fun _ _ _ _ _ => True) (fun _ U o U' => ∃ v L, o = .returned v ∧ QOk Z  h0 n0 v U'.heap L ∧ CHr Z own_EL U.vm U.heap U'.vm U'.heap ∧ ReturnedEndW U o U' L ({ frames := 5, cells := 2, slots := 32, locals := 70 } : Room).cells ({ frames := 5, cells := 2, slots := 32, locals := 70 } : Room).slots) := by
  refine MetFree.of_bodySF (plainFor_of_name pn_kakehashi_cli_OptionMissingPinLaw) hisR ?_
  intro p e s m args below meth c s₁ Bd hml0 hP hK
  obtain ⟨rfl, hZ, hh, hI⟩ := hP
  have hx := Bd.exec
  have hby := Bd.bytes
  have hml : c.maxLocals = 6 := hml0
  have hown : s.vm.findClass "kakehashi/cli/OptionMissingPinLaw" = some m.cls := findClass_of_methodNamed Bd.named
  have hnm := (name_of_methodNamed Bd.named Bd.method).1
  have X0 : Stand p l e ({ frames := 5, cells := 2, slots := 32, locals := 70 } : Room) s m #[(.ref b0), (.ref b1), (.ref b2), (.int j)] below meth c s₁ [] 0 0 := Stand.of_body Bd
  have e0 : s₁.heap = h0 := by rw [← hh, Bd.state]; rfl
  have N0 := Fr.nil n0
  have pre0 : ∀ t, Steps p.tables e below (s₁.setTop (mkF m 0 #[.val (.ref b0), .val (.ref b1), .val (.ref b2), .val (.int j), .unset, .unset] [])) t → Steps p.tables e below (s₁.setTop (entryFrame m #[(.ref b0), (.ref b1), (.ref b2), (.int j)] 6)) t := fun t kt => castTop (ef_rmOk m b0 b1 b2 j) kt
  have hwc : ∀ d ∈ StrChars.Road.wordsChN, d.before a0 Z = true := fun d hd => hw d ((by decide +kernel : ∀ d ∈ StrChars.Road.wordsChN, d ∈ tables_1) d hd)
  have lM : ∀ c ∈ (own_M cs ds), ¬ c < 0 ∧ ¬ (255 : Int32) < c := own_lM lcs lds
  have hM : (own_M cs ds).length ≤ 13 := own_hM hcs hds
  by_cases c0_1 : k < (own_M cs ds).length
  · have pre21 : ∀ t, Steps p.tables e below (s₁.setTop (mkF m 3 #[.val (.ref b0), .val (.ref b1), .val (.ref b2), .val (.int j), .unset, .unset] [(.int j), (.ref b2), (.ref b1)])) t → Steps p.tables e below (s₁.setTop (entryFrame m #[(.ref b0), (.ref b1), (.ref b2), (.int j)] 6)) t := fun t kt => pre0 t (by
      refine XS.aloadN X0.here hx rfl (hb hby d36_0) rfl rfl ?_
      show Steps p.tables e below (s₁.setTop (mkF m 1 #[.val (.ref b0), .val (.ref b1), .val (.ref b2), .val (.int j), .unset, .unset] [(.ref b1)])) _
      refine XS.aloadN X0.here hx rfl (hb hby d36_1) rfl rfl ?_
      show Steps p.tables e below (s₁.setTop (mkF m 2 #[.val (.ref b0), .val (.ref b1), .val (.ref b2), .val (.int j), .unset, .unset] [(.ref b2), (.ref b1)])) _
      refine XS.iloadN X0.here hx rfl (hb hby d36_2) rfl ?_
      show Steps p.tables e below (s₁.setTop (mkF m 3 #[.val (.ref b0), .val (.ref b1), .val (.ref b2), .val (.int j), .unset, .unset] [(.int j), (.ref b2), (.ref b1)])) _
      exact kt)
    have sf23 : ∀ y ∈ ([] : List Addr), Safe Z own_EL s.vm h0 y := sf0
    have ch23 : CHr Z own_EL s.vm h0 s.vm h0 := CHr.trans (CHr.refl hI) (CHr.keep (Keep.refl h0 []) sf23 ((CHr.refl hI)).1)
    obtain ⟨_, _, ⟨T22, L22, k22, n22⟩, -, X22, hS22, hgr22, ⟨Lc22, hQ22, l22, y22, z22, hC22⟩, st22⟩ := callSS X0 hx (y := (⟨"kakehashi/cli/OptionMissingPinLaw", "expectedAt", "(Ljava/lang/String;Ljava/lang/String;I)I"⟩ : MethodName)) hown (mvT hZ (hw _ (List.mem_of_getElem? (i := 228) rfl))) (mvT hZ (hw _ (List.mem_of_getElem? (i := 229) rfl))) (mvT hZ (hw _ (List.mem_of_getElem? (i := 2) rfl))) (mvT hZ (hw _ (List.mem_of_getElem? (i := 230) rfl))) (by decide) (backOfSH (s := s) (vm0 := s.vm) (W := 0) (rmXa l Z a0 hw [] b1 b2 c1 c2 _ _ cs ds k j z0 fm h0 n0 Z0 Sn0 Sn1 Sn2 Sn3 Sv0 Sv1 Sv2 Sv3 hcs hds lcs lds hj hk O0 S0 hz S1 hfm) hZ (hw _ (List.mem_of_getElem? (i := 230) rfl)) (hw _ (List.mem_of_getElem? (i := 2) rfl)) (by decide) (by decide) (own_EW hw) (ch23).1) (g := (mkF m 3 #[.val (.ref b0), .val (.ref b1), .val (.ref b2), .val (.int j), .unset, .unset] [(.int j), (.ref b2), (.ref b1)])) rfl (by rw [hml]; rfl) (argsL := [(.ref b1), (.ref b2), (.int j)]) (rest := []) (lenOf pd__28Ljava_2flang_2fString_3bLjava_2flang_2fString_3bI_29I rfl) rfl (by show 2 * 0 + _ ≤ _; exact Nat.le_of_eq rfl) (hb hby d36_3) (fun _ _ => ⟨rfl, e0, (by decide : 0 + 2 ≤ _), (by decide : 0 + 32 ≤ _)⟩)
    dsimp only [Pt.U, Pt.locs, Pt.cells, Pt.slots] at X22 l22 y22 z22 st22 hQ22 hC22
    subst l22 y22 z22
    dsimp only [Pt.U] at hS22 hgr22
    have hZ22 : Z.Warmed39 (s.setVm T22.vm).vm := State.Warmed39.trans hZ hS22.1
    have hO22 : (s.setVm T22.vm).vm.findClass "kakehashi/cli/OptionMissingPinLaw" = some m.cls := (hS22.1.alike.findClass _ _).trans hown
    obtain ⟨rfl, N22q, K22⟩ := hQ22
    have N22 := Fr.app N0 N22q
    have f24 := ((Keep.refl h0 [])).trans K22 (own_all0 )
    have f25 := (O0).keep K22 (own_all0 )
    have f26 := ((Keep.refl h0 [])).trans K22 (own_all0 )
    have f27 := (Sm0).keep K22
    have f28 := (Sm1).keep K22 own_notin0
    have f29 := (Sm2).keep K22 own_notin0
    have f30 := (Sm3).keep K22 own_notin0
    have f31 := (Sn0).keep K22
    have f32 := (Sn1).keep K22 own_notin0
    have f33 := (Sn2).keep K22 own_notin0
    have f34 := (Sn3).keep K22 own_notin0
    have f35 := (Sv0).keep K22
    have f36 := (Sv1).keep K22 own_notin0
    have f37 := (Sv2).keep K22 own_notin0
    have f38 := (Sv3).keep K22 own_notin0
    have Zf39 : n0 ≤ T22.heap.size := Nat.le_trans Z0 (K22).1
    have ch40 : CHr Z own_EL s.vm h0 T22.vm T22.heap := CHr.trans ch23 hC22
    have pre41 : ∀ t, Steps p.tables e below (T22.setTop (mkF m 6 #[.val (.ref b0), .val (.ref b1), .val (.ref b2), .val (.int j), .unset, .unset] [(.int (own_exp cs ds k))])) t → Steps p.tables e below (s₁.setTop (entryFrame m #[(.ref b0), (.ref b1), (.ref b2), (.int j)] 6)) t := fun t kt => pre21 t (st22.trans kt)
    have pre42 : ∀ t, Steps p.tables e below (T22.setTop (mkF m 10 #[.val (.ref b0), .val (.ref b1), .val (.ref b2), .val (.int j), .val (.int (own_exp cs ds k)), .unset] [(.ref b0), (.int j)])) t → Steps p.tables e below (s₁.setTop (entryFrame m #[(.ref b0), (.ref b1), (.ref b2), (.int j)] 6)) t := fun t kt => pre41 t (by
      refine XS.istore X22.here hx rfl (hb hby d36_6) rfl (l' := #[.val (.ref b0), .val (.ref b1), .val (.ref b2), .val (.int j), .val (.int (own_exp cs ds k)), .unset]) rfl ?_
      show Steps p.tables e below (T22.setTop (mkF m 8 #[.val (.ref b0), .val (.ref b1), .val (.ref b2), .val (.int j), .val (.int (own_exp cs ds k)), .unset] [])) _
      refine XS.iloadN X22.here hx rfl (hb hby d36_8) rfl ?_
      show Steps p.tables e below (T22.setTop (mkF m 9 #[.val (.ref b0), .val (.ref b1), .val (.ref b2), .val (.int j), .val (.int (own_exp cs ds k)), .unset] [(.int j)])) _
      refine XS.aloadN X22.here hx rfl (hb hby d36_9) rfl rfl ?_
      show Steps p.tables e below (T22.setTop (mkF m 10 #[.val (.ref b0), .val (.ref b1), .val (.ref b2), .val (.int j), .val (.int (own_exp cs ds k)), .unset] [(.ref b0), (.int j)])) _
      exact kt)
    obtain ⟨cq43, kq43, q43a, q43b, q43c⟩ := isOf hZ22 rfl (f27)
    obtain ⟨_, _, ⟨T43, L43, k43, n43⟩, -, X43, ⟨Lc43, hQ43, l43, y43, z43⟩, st43⟩ := X22.virtualBack hx (y := (⟨"java/lang/String", "length", "()I"⟩ : MethodName)) (z := (⟨"java/lang/String", "length", "()I"⟩ : MethodName)) hO22 (mvT hZ22 (hw _ (List.mem_of_getElem? (i := 224) rfl))) (mvT hZ22 (hw _ (List.mem_of_getElem? (i := 79) rfl))) (notFace_of_selects (args := #[]) (mvT hZ22 (hw _ (List.mem_of_getElem? (i := 81) rfl)))) (mvT hZ22 (hw _ (List.mem_of_getElem? (i := 81) rfl))) (mvT hZ22 (hw _ (List.mem_of_getElem? (i := 80) rfl))) (by decide) (backOf (W := 1) (rmLs l Z a0 hw [] b0 c0 _ _ z0 _ T22.heap n0 Zf39 f27 f28 f29 f30 f25 S0 hz) hZ22 (hw _ (List.mem_of_getElem? (i := 82) rfl)) (hw _ (List.mem_of_getElem? (i := 6) rfl)) (by decide) (by decide)) q43a q43c (g := (mkF m 10 #[.val (.ref b0), .val (.ref b1), .val (.ref b2), .val (.int j), .val (.int (own_exp cs ds k)), .unset] [(.ref b0), (.int j)])) rfl (by rw [hml]; rfl) (Steps.refl _) (argsL := []) (rest := [(.int j)]) (lenOf pd__28_29I rfl) rfl (by show 2 * 0 + _ ≤ _; exact Nat.le_of_eq rfl) (hb hby d36_10) (fun _ _ => ⟨rfl, rfl, (by decide : 2 + 0 ≤ _), (by decide : 32 + 0 ≤ _)⟩)
    dsimp only [Pt.U, Pt.locs, Pt.cells, Pt.slots] at X43 l43 y43 z43 st43 hQ43
    subst l43 y43 z43
    obtain ⟨rfl, N43q, e43q⟩ := hQ43
    have N43 := Fr.app N22 N43q
    have pre44 : ∀ t, Steps p.tables e below (T43.setTop (mkF m 13 #[.val (.ref b0), .val (.ref b1), .val (.ref b2), .val (.int j), .val (.int (own_exp cs ds k)), .unset] [(.int (Int32.ofNat (own_M cs ds).length)), (.int j)])) t → Steps p.tables e below (s₁.setTop (entryFrame m #[(.ref b0), (.ref b1), (.ref b2), (.int j)] 6)) t := fun t kt => pre42 t (st43.trans kt)
    have pre45 : ∀ t, Steps p.tables e below (T43.setTop (mkF m 18 #[.val (.ref b0), .val (.ref b1), .val (.ref b2), .val (.int j), .val (.int (own_exp cs ds k)), .unset] [(.int j), (.ref b0)])) t → Steps p.tables e below (s₁.setTop (entryFrame m #[(.ref b0), (.ref b1), (.ref b2), (.int j)] 6)) t := fun t kt => pre44 t (by
      refine XS.icmpNo X43.here hx rfl (hb hby d36_13) rfl (tlt (own_lt4 hj hk hM c0_1 : j < (Int32.ofNat (own_M cs ds).length))).2.1 ?_
      show Steps p.tables e below (T43.setTop (mkF m 16 #[.val (.ref b0), .val (.ref b1), .val (.ref b2), .val (.int j), .val (.int (own_exp cs ds k)), .unset] [])) _
      refine XS.aloadN X43.here hx rfl (hb hby d36_16) rfl rfl ?_
      show Steps p.tables e below (T43.setTop (mkF m 17 #[.val (.ref b0), .val (.ref b1), .val (.ref b2), .val (.int j), .val (.int (own_exp cs ds k)), .unset] [(.ref b0)])) _
      refine XS.iloadN X43.here hx rfl (hb hby d36_17) rfl ?_
      show Steps p.tables e below (T43.setTop (mkF m 18 #[.val (.ref b0), .val (.ref b1), .val (.ref b2), .val (.int j), .val (.int (own_exp cs ds k)), .unset] [(.int j), (.ref b0)])) _
      exact kt)
    obtain ⟨cq46, kq46, q46a, q46b, q46c⟩ := isOf hZ22 e43q (f27)
    obtain ⟨_, _, ⟨T46, L46, k46, n46⟩, -, X46, ⟨Lc46, hQ46, l46, y46, z46⟩, st46⟩ := X43.virtualBack hx (y := (⟨"java/lang/String", "charAt", "(I)C"⟩ : MethodName)) (z := (⟨"java/lang/String", "charAt", "(I)C"⟩ : MethodName)) hO22 (mvT hZ22 (hw _ (List.mem_of_getElem? (i := 232) rfl))) (mvT hZ22 (hw _ (List.mem_of_getElem? (i := 233) rfl))) (notFace_of_selects (args := #[]) (mvT hZ22 (hw _ (List.mem_of_getElem? (i := 235) rfl)))) (mvT hZ22 (hw _ (List.mem_of_getElem? (i := 235) rfl))) (mvT hZ22 (hw _ (List.mem_of_getElem? (i := 234) rfl))) (by decide) (StrChars.Road.chN (W := 0) hZ22 hwc (kI := 4) (hw _ (List.mem_of_getElem? (i := 5) rfl)) (cs := (own_M cs ds)) (i := k) (j := j) f27 f28 f29 f30 (StrChars.Road.codOf rfl (fun c q => (lM c q).2)) (fun c q => ⟨(lM c q).1, own_65 (lM c q).2⟩) (S0.ext (f25).2) hz (S1.ext (f25).2) hfm (own_4000 hM) c0_1 hj (by decide) (by decide)) q46a q46c (g := (mkF m 18 #[.val (.ref b0), .val (.ref b1), .val (.ref b2), .val (.int j), .val (.int (own_exp cs ds k)), .unset] [(.int j), (.ref b0)])) rfl (by rw [hml]; rfl) (Steps.refl _) (argsL := [(.int j)]) (rest := []) (lenOf pd__28I_29C rfl) rfl (by show 2 * 0 + _ ≤ _; exact Nat.le_of_eq rfl) (hb hby d36_18) (fun _ _ => ⟨rfl, e43q, (by decide : 2 + 0 ≤ _), (by decide : 32 + 0 ≤ _)⟩)
    dsimp only [Pt.U, Pt.locs, Pt.cells, Pt.slots] at X46 l46 y46 z46 st46 hQ46
    subst l46 y46 z46
    obtain ⟨rfl, rfl, e46q⟩ := hQ46
    have N46q : Fr n0 [] := Fr.nil n0
    have N46 := Fr.app N43 N46q
    have pre47 : ∀ t, Steps p.tables e below (T46.setTop (mkF m 21 #[.val (.ref b0), .val (.ref b1), .val (.ref b2), .val (.int j), .val (.int (own_exp cs ds k)), .unset] [(.int ((own_M cs ds).getD k 0))])) t → Steps p.tables e below (s₁.setTop (entryFrame m #[(.ref b0), (.ref b1), (.ref b2), (.int j)] 6)) t := fun t kt => pre45 t (st46.trans kt)
    have pre48 : ∀ t, Steps p.tables e below (T46.setTop (mkF m 39 #[.val (.ref b0), .val (.ref b1), .val (.ref b2), .val (.int j), .val (.int (own_exp cs ds k)), .val (.int ((own_M cs ds).getD k 0))] [(.int (1 : Int32))])) t → Steps p.tables e below (s₁.setTop (entryFrame m #[(.ref b0), (.ref b1), (.ref b2), (.int j)] 6)) t := fun t kt => pre47 t (by
      refine XS.goto X46.here hx rfl (pc0 := 21) (pc' := 25) rfl (hb hby d36_21) (by decide) (by decide) ?_
      show Steps p.tables e below (T46.setTop (mkF m 25 #[.val (.ref b0), .val (.ref b1), .val (.ref b2), .val (.int j), .val (.int (own_exp cs ds k)), .unset] [(.int ((own_M cs ds).getD k 0))])) _
      refine XS.istore X46.here hx rfl (hb hby d36_25) rfl (l' := #[.val (.ref b0), .val (.ref b1), .val (.ref b2), .val (.int j), .val (.int (own_exp cs ds k)), .val (.int ((own_M cs ds).getD k 0))]) rfl ?_
      show Steps p.tables e below (T46.setTop (mkF m 27 #[.val (.ref b0), .val (.ref b1), .val (.ref b2), .val (.int j), .val (.int (own_exp cs ds k)), .val (.int ((own_M cs ds).getD k 0))] [])) _
      refine XS.iload X46.here hx rfl (hb hby d36_27) rfl ?_
      show Steps p.tables e below (T46.setTop (mkF m 29 #[.val (.ref b0), .val (.ref b1), .val (.ref b2), .val (.int j), .val (.int (own_exp cs ds k)), .val (.int ((own_M cs ds).getD k 0))] [(.int (own_exp cs ds k))])) _
      refine XS.iload X46.here hx rfl (hb hby d36_29) rfl ?_
      show Steps p.tables e below (T46.setTop (mkF m 31 #[.val (.ref b0), .val (.ref b1), .val (.ref b2), .val (.int j), .val (.int (own_exp cs ds k)), .val (.int ((own_M cs ds).getD k 0))] [(.int ((own_M cs ds).getD k 0)), (.int (own_exp cs ds k))])) _
      refine XS.icmpNo X46.here hx rfl (hb hby d36_31) rfl (teq (own_eq1 c0_1 : (own_exp cs ds k) = ((own_M cs ds).getD k 0))).2 ?_
      show Steps p.tables e below (T46.setTop (mkF m 34 #[.val (.ref b0), .val (.ref b1), .val (.ref b2), .val (.int j), .val (.int (own_exp cs ds k)), .val (.int ((own_M cs ds).getD k 0))] [])) _
      refine XS.iconst X46.here hx rfl (hb hby d36_34) ?_
      show Steps p.tables e below (T46.setTop (mkF m 35 #[.val (.ref b0), .val (.ref b1), .val (.ref b2), .val (.int j), .val (.int (own_exp cs ds k)), .val (.int ((own_M cs ds).getD k 0))] [(.int (1 : Int32))])) _
      refine XS.goto X46.here hx rfl (pc0 := 35) (pc' := 39) rfl (hb hby d36_35) (by decide) (by decide) ?_
      show Steps p.tables e below (T46.setTop (mkF m 39 #[.val (.ref b0), .val (.ref b1), .val (.ref b2), .val (.int j), .val (.int (own_exp cs ds k)), .val (.int ((own_M cs ds).getD k 0))] [(.int (1 : Int32))])) _
      exact kt)
    have sf50 : ∀ y ∈ ([] : List Addr), Safe Z own_EL T22.vm T22.heap y := sf0
    have ch50 : CHr Z own_EL s.vm h0 T22.vm T22.heap := CHr.trans ch40 (CHr.keep (Keep.refl T22.heap []) sf50 (ch40).1)
    have hCf : CHr Z own_EL s.vm s.heap T46.vm T46.heap := by
      rw [hh, e46q]
      exact CHr.trans ch50 (CHv.at (s := s) (vm0 := T22.vm) X46 hZ22 (own_EW hw) (ch50).1)
    obtain ⟨fs, hr, hrun, hended, hRE⟩ := X46.leaveW hS22 (by rw [e46q]; exact (Nat.le_refl _)) (v := (some (.int (1 : Int32)))) (fun h => by rw [Bd.returns] at h; cases h)
    refine ⟨_, _, pre48 _ ?_, hrun, hended, _, _, rfl, ?_, hCf, hRE.1, hRE.2.1, hRE.2.2.1, hRE.2.2.2.mono (by decide) (by decide)⟩
    · exact retN X46 hx (t := .boolean) Bd.returns (by simp) (hb hby d36_39) hr
    · show QOk Z  h0 n0 _ T46.heap _
      rw [e46q]
      exact ⟨rfl, N46, f26⟩
  · have pre51 : ∀ t, Steps p.tables e below (s₁.setTop (mkF m 3 #[.val (.ref b0), .val (.ref b1), .val (.ref b2), .val (.int j), .unset, .unset] [(.int j), (.ref b2), (.ref b1)])) t → Steps p.tables e below (s₁.setTop (entryFrame m #[(.ref b0), (.ref b1), (.ref b2), (.int j)] 6)) t := fun t kt => pre0 t (by
      refine XS.aloadN X0.here hx rfl (hb hby d36_0) rfl rfl ?_
      show Steps p.tables e below (s₁.setTop (mkF m 1 #[.val (.ref b0), .val (.ref b1), .val (.ref b2), .val (.int j), .unset, .unset] [(.ref b1)])) _
      refine XS.aloadN X0.here hx rfl (hb hby d36_1) rfl rfl ?_
      show Steps p.tables e below (s₁.setTop (mkF m 2 #[.val (.ref b0), .val (.ref b1), .val (.ref b2), .val (.int j), .unset, .unset] [(.ref b2), (.ref b1)])) _
      refine XS.iloadN X0.here hx rfl (hb hby d36_2) rfl ?_
      show Steps p.tables e below (s₁.setTop (mkF m 3 #[.val (.ref b0), .val (.ref b1), .val (.ref b2), .val (.int j), .unset, .unset] [(.int j), (.ref b2), (.ref b1)])) _
      exact kt)
    have sf53 : ∀ y ∈ ([] : List Addr), Safe Z own_EL s.vm h0 y := sf0
    have ch53 : CHr Z own_EL s.vm h0 s.vm h0 := CHr.trans (CHr.refl hI) (CHr.keep (Keep.refl h0 []) sf53 ((CHr.refl hI)).1)
    obtain ⟨_, _, ⟨T52, L52, k52, n52⟩, -, X52, hS52, hgr52, ⟨Lc52, hQ52, l52, y52, z52, hC52⟩, st52⟩ := callSS X0 hx (y := (⟨"kakehashi/cli/OptionMissingPinLaw", "expectedAt", "(Ljava/lang/String;Ljava/lang/String;I)I"⟩ : MethodName)) hown (mvT hZ (hw _ (List.mem_of_getElem? (i := 228) rfl))) (mvT hZ (hw _ (List.mem_of_getElem? (i := 229) rfl))) (mvT hZ (hw _ (List.mem_of_getElem? (i := 2) rfl))) (mvT hZ (hw _ (List.mem_of_getElem? (i := 230) rfl))) (by decide) (backOfSH (s := s) (vm0 := s.vm) (W := 0) (rmXa l Z a0 hw [] b1 b2 c1 c2 _ _ cs ds k j z0 fm h0 n0 Z0 Sn0 Sn1 Sn2 Sn3 Sv0 Sv1 Sv2 Sv3 hcs hds lcs lds hj hk O0 S0 hz S1 hfm) hZ (hw _ (List.mem_of_getElem? (i := 230) rfl)) (hw _ (List.mem_of_getElem? (i := 2) rfl)) (by decide) (by decide) (own_EW hw) (ch53).1) (g := (mkF m 3 #[.val (.ref b0), .val (.ref b1), .val (.ref b2), .val (.int j), .unset, .unset] [(.int j), (.ref b2), (.ref b1)])) rfl (by rw [hml]; rfl) (argsL := [(.ref b1), (.ref b2), (.int j)]) (rest := []) (lenOf pd__28Ljava_2flang_2fString_3bLjava_2flang_2fString_3bI_29I rfl) rfl (by show 2 * 0 + _ ≤ _; exact Nat.le_of_eq rfl) (hb hby d36_3) (fun _ _ => ⟨rfl, e0, (by decide : 0 + 2 ≤ _), (by decide : 0 + 32 ≤ _)⟩)
    dsimp only [Pt.U, Pt.locs, Pt.cells, Pt.slots] at X52 l52 y52 z52 st52 hQ52 hC52
    subst l52 y52 z52
    dsimp only [Pt.U] at hS52 hgr52
    have hZ52 : Z.Warmed39 (s.setVm T52.vm).vm := State.Warmed39.trans hZ hS52.1
    have hO52 : (s.setVm T52.vm).vm.findClass "kakehashi/cli/OptionMissingPinLaw" = some m.cls := (hS52.1.alike.findClass _ _).trans hown
    obtain ⟨rfl, N52q, K52⟩ := hQ52
    have N52 := Fr.app N0 N52q
    have f54 := ((Keep.refl h0 [])).trans K52 (own_all0 )
    have f55 := (O0).keep K52 (own_all0 )
    have f56 := ((Keep.refl h0 [])).trans K52 (own_all0 )
    have f57 := (Sm0).keep K52
    have f58 := (Sm1).keep K52 own_notin0
    have f59 := (Sm2).keep K52 own_notin0
    have f60 := (Sm3).keep K52 own_notin0
    have f61 := (Sn0).keep K52
    have f62 := (Sn1).keep K52 own_notin0
    have f63 := (Sn2).keep K52 own_notin0
    have f64 := (Sn3).keep K52 own_notin0
    have f65 := (Sv0).keep K52
    have f66 := (Sv1).keep K52 own_notin0
    have f67 := (Sv2).keep K52 own_notin0
    have f68 := (Sv3).keep K52 own_notin0
    have Zf69 : n0 ≤ T52.heap.size := Nat.le_trans Z0 (K52).1
    have ch70 : CHr Z own_EL s.vm h0 T52.vm T52.heap := CHr.trans ch53 hC52
    have pre71 : ∀ t, Steps p.tables e below (T52.setTop (mkF m 6 #[.val (.ref b0), .val (.ref b1), .val (.ref b2), .val (.int j), .unset, .unset] [(.int (own_exp cs ds k))])) t → Steps p.tables e below (s₁.setTop (entryFrame m #[(.ref b0), (.ref b1), (.ref b2), (.int j)] 6)) t := fun t kt => pre51 t (st52.trans kt)
    have pre72 : ∀ t, Steps p.tables e below (T52.setTop (mkF m 10 #[.val (.ref b0), .val (.ref b1), .val (.ref b2), .val (.int j), .val (.int (own_exp cs ds k)), .unset] [(.ref b0), (.int j)])) t → Steps p.tables e below (s₁.setTop (entryFrame m #[(.ref b0), (.ref b1), (.ref b2), (.int j)] 6)) t := fun t kt => pre71 t (by
      refine XS.istore X52.here hx rfl (hb hby d36_6) rfl (l' := #[.val (.ref b0), .val (.ref b1), .val (.ref b2), .val (.int j), .val (.int (own_exp cs ds k)), .unset]) rfl ?_
      show Steps p.tables e below (T52.setTop (mkF m 8 #[.val (.ref b0), .val (.ref b1), .val (.ref b2), .val (.int j), .val (.int (own_exp cs ds k)), .unset] [])) _
      refine XS.iloadN X52.here hx rfl (hb hby d36_8) rfl ?_
      show Steps p.tables e below (T52.setTop (mkF m 9 #[.val (.ref b0), .val (.ref b1), .val (.ref b2), .val (.int j), .val (.int (own_exp cs ds k)), .unset] [(.int j)])) _
      refine XS.aloadN X52.here hx rfl (hb hby d36_9) rfl rfl ?_
      show Steps p.tables e below (T52.setTop (mkF m 10 #[.val (.ref b0), .val (.ref b1), .val (.ref b2), .val (.int j), .val (.int (own_exp cs ds k)), .unset] [(.ref b0), (.int j)])) _
      exact kt)
    obtain ⟨cq73, kq73, q73a, q73b, q73c⟩ := isOf hZ52 rfl (f57)
    obtain ⟨_, _, ⟨T73, L73, k73, n73⟩, -, X73, ⟨Lc73, hQ73, l73, y73, z73⟩, st73⟩ := X52.virtualBack hx (y := (⟨"java/lang/String", "length", "()I"⟩ : MethodName)) (z := (⟨"java/lang/String", "length", "()I"⟩ : MethodName)) hO52 (mvT hZ52 (hw _ (List.mem_of_getElem? (i := 224) rfl))) (mvT hZ52 (hw _ (List.mem_of_getElem? (i := 79) rfl))) (notFace_of_selects (args := #[]) (mvT hZ52 (hw _ (List.mem_of_getElem? (i := 81) rfl)))) (mvT hZ52 (hw _ (List.mem_of_getElem? (i := 81) rfl))) (mvT hZ52 (hw _ (List.mem_of_getElem? (i := 80) rfl))) (by decide) (backOf (W := 1) (rmLs l Z a0 hw [] b0 c0 _ _ z0 _ T52.heap n0 Zf69 f57 f58 f59 f60 f55 S0 hz) hZ52 (hw _ (List.mem_of_getElem? (i := 82) rfl)) (hw _ (List.mem_of_getElem? (i := 6) rfl)) (by decide) (by decide)) q73a q73c (g := (mkF m 10 #[.val (.ref b0), .val (.ref b1), .val (.ref b2), .val (.int j), .val (.int (own_exp cs ds k)), .unset] [(.ref b0), (.int j)])) rfl (by rw [hml]; rfl) (Steps.refl _) (argsL := []) (rest := [(.int j)]) (lenOf pd__28_29I rfl) rfl (by show 2 * 0 + _ ≤ _; exact Nat.le_of_eq rfl) (hb hby d36_10) (fun _ _ => ⟨rfl, rfl, (by decide : 2 + 0 ≤ _), (by decide : 32 + 0 ≤ _)⟩)
    dsimp only [Pt.U, Pt.locs, Pt.cells, Pt.slots] at X73 l73 y73 z73 st73 hQ73
    subst l73 y73 z73
    obtain ⟨rfl, N73q, e73q⟩ := hQ73
    have N73 := Fr.app N52 N73q
    have pre74 : ∀ t, Steps p.tables e below (T73.setTop (mkF m 13 #[.val (.ref b0), .val (.ref b1), .val (.ref b2), .val (.int j), .val (.int (own_exp cs ds k)), .unset] [(.int (Int32.ofNat (own_M cs ds).length)), (.int j)])) t → Steps p.tables e below (s₁.setTop (entryFrame m #[(.ref b0), (.ref b1), (.ref b2), (.int j)] 6)) t := fun t kt => pre72 t (st73.trans kt)
    have pre75 : ∀ t, Steps p.tables e below (T73.setTop (mkF m 39 #[.val (.ref b0), .val (.ref b1), .val (.ref b2), .val (.int j), .val (.int (own_exp cs ds k)), .val (.int (-1 : Int32))] [(.int (1 : Int32))])) t → Steps p.tables e below (s₁.setTop (entryFrame m #[(.ref b0), (.ref b1), (.ref b2), (.int j)] 6)) t := fun t kt => pre74 t (by
      refine XS.icmpYes X73.here hx rfl (pc0 := 13) (pc' := 24) rfl (hb hby d36_13) rfl (flt (own_lt4n hj hk hM c0_1 : ¬ (j < (Int32.ofNat (own_M cs ds).length)))).2.1 (by decide) (by decide) ?_
      show Steps p.tables e below (T73.setTop (mkF m 24 #[.val (.ref b0), .val (.ref b1), .val (.ref b2), .val (.int j), .val (.int (own_exp cs ds k)), .unset] [])) _
      refine XS.iconst X73.here hx rfl (hb hby d36_24) ?_
      show Steps p.tables e below (T73.setTop (mkF m 25 #[.val (.ref b0), .val (.ref b1), .val (.ref b2), .val (.int j), .val (.int (own_exp cs ds k)), .unset] [(.int (-1 : Int32))])) _
      refine XS.istore X73.here hx rfl (hb hby d36_25) rfl (l' := #[.val (.ref b0), .val (.ref b1), .val (.ref b2), .val (.int j), .val (.int (own_exp cs ds k)), .val (.int (-1 : Int32))]) rfl ?_
      show Steps p.tables e below (T73.setTop (mkF m 27 #[.val (.ref b0), .val (.ref b1), .val (.ref b2), .val (.int j), .val (.int (own_exp cs ds k)), .val (.int (-1 : Int32))] [])) _
      refine XS.iload X73.here hx rfl (hb hby d36_27) rfl ?_
      show Steps p.tables e below (T73.setTop (mkF m 29 #[.val (.ref b0), .val (.ref b1), .val (.ref b2), .val (.int j), .val (.int (own_exp cs ds k)), .val (.int (-1 : Int32))] [(.int (own_exp cs ds k))])) _
      refine XS.iload X73.here hx rfl (hb hby d36_29) rfl ?_
      show Steps p.tables e below (T73.setTop (mkF m 31 #[.val (.ref b0), .val (.ref b1), .val (.ref b2), .val (.int j), .val (.int (own_exp cs ds k)), .val (.int (-1 : Int32))] [(.int (-1 : Int32)), (.int (own_exp cs ds k))])) _
      refine XS.icmpNo X73.here hx rfl (hb hby d36_31) rfl (teq (own_eq2 c0_1 : (own_exp cs ds k) = (-1 : Int32))).2 ?_
      show Steps p.tables e below (T73.setTop (mkF m 34 #[.val (.ref b0), .val (.ref b1), .val (.ref b2), .val (.int j), .val (.int (own_exp cs ds k)), .val (.int (-1 : Int32))] [])) _
      refine XS.iconst X73.here hx rfl (hb hby d36_34) ?_
      show Steps p.tables e below (T73.setTop (mkF m 35 #[.val (.ref b0), .val (.ref b1), .val (.ref b2), .val (.int j), .val (.int (own_exp cs ds k)), .val (.int (-1 : Int32))] [(.int (1 : Int32))])) _
      refine XS.goto X73.here hx rfl (pc0 := 35) (pc' := 39) rfl (hb hby d36_35) (by decide) (by decide) ?_
      show Steps p.tables e below (T73.setTop (mkF m 39 #[.val (.ref b0), .val (.ref b1), .val (.ref b2), .val (.int j), .val (.int (own_exp cs ds k)), .val (.int (-1 : Int32))] [(.int (1 : Int32))])) _
      exact kt)
    have sf77 : ∀ y ∈ ([] : List Addr), Safe Z own_EL T52.vm T52.heap y := sf0
    have ch77 : CHr Z own_EL s.vm h0 T52.vm T52.heap := CHr.trans ch70 (CHr.keep (Keep.refl T52.heap []) sf77 (ch70).1)
    have hCf : CHr Z own_EL s.vm s.heap T73.vm T73.heap := by
      rw [hh, e73q]
      exact CHr.trans ch77 (CHv.at (s := s) (vm0 := T52.vm) X73 hZ52 (own_EW hw) (ch77).1)
    obtain ⟨fs, hr, hrun, hended, hRE⟩ := X73.leaveW hS52 (by rw [e73q]; exact (Nat.le_refl _)) (v := (some (.int (1 : Int32)))) (fun h => by rw [Bd.returns] at h; cases h)
    refine ⟨_, _, pre75 _ ?_, hrun, hended, _, _, rfl, ?_, hCf, hRE.1, hRE.2.1, hRE.2.2.1, hRE.2.2.2.mono (by decide) (by decide)⟩
    · exact retN X73 hx (t := .boolean) Bd.returns (by simp) (hb hby d36_39) hr
    · show QOk Z  h0 n0 _ T73.heap _
      rw [e73q]
      exact ⟨rfl, N73, f56⟩
theorem ef_rmOl (m : MethodId) (x0 : Addr) (x1 : Addr) (x2 : Addr) (x3 : Int32) : entryFrame m #[(.ref x0), (.ref x1), (.ref x2), (.int x3)] 6 = mkF m 0 #[.val (.ref x0), .val (.ref x1), .val (.ref x2), .val (.int x3), .unset, .unset] [] := by first | (simp [entryFrame, mkF, argsToLocals, Value.category]; done) | rfl
set_option maxRecDepth 65536 in
set_option maxHeartbeats 40000000 in
theorem rmOl (l : Launch) (Z : State) (a0 : Array Value) (hw : ∀ d ∈ tables_1, d.before a0 Z = true) (ws : List Jvm.Cond) (b0 b1 b2 c0 c1 c2 : Addr) (k0 k1 k2 : ClassId) (cs ds : List Int32) (k : Nat) (j z0 : Int32) (fm : Value) (h0 : Heap) (n0 : Nat) (Z0 : n0 ≤ h0.size) (Sm0 : Exa Z h0 b0 "java/lang/String") (Sm1 : Fld Z h0 b0 "java/lang/String" "value" "[B" (.ref c0)) (Sm2 : Fld Z h0 b0 "java/lang/String" "coder" "B" (.int (0 : Int32))) (Sm3 : Arv Z h0 c0 k0 .byte (Int32.ofNat (own_M cs ds).length) (own_B (own_M cs ds)) (.int (0 : Int32))) (Sn0 : Exa Z h0 b1 "java/lang/String") (Sn1 : Fld Z h0 b1 "java/lang/String" "value" "[B" (.ref c1)) (Sn2 : Fld Z h0 b1 "java/lang/String" "coder" "B" (.int (0 : Int32))) (Sn3 : Arv Z h0 c1 k1 .byte (Int32.ofNat cs.length) (own_B cs) (.int (0 : Int32))) (Sv0 : Exa Z h0 b2 "java/lang/String") (Sv1 : Fld Z h0 b2 "java/lang/String" "value" "[B" (.ref c2)) (Sv2 : Fld Z h0 b2 "java/lang/String" "coder" "B" (.int (0 : Int32))) (Sv3 : Arv Z h0 c2 k2 .byte (Int32.ofNat ds.length) (own_B ds) (.int (0 : Int32))) (hcs : cs.length ≤ 3) (hds : ds.length ≤ 3) (lcs : ∀ c ∈ cs, ¬ c < 0 ∧ ¬ (255 : Int32) < c) (lds : ∀ c ∈ ds, ¬ c < 0 ∧ ¬ (255 : Int32) < c) (hj : j = Int32.ofNat k) (hk : k ≤ 12) (O0 : OldL Z n0 h0) (S0 : Sta Z Z.heap "java/lang/String" "COMPACT_STRINGS" "Z" (.int z0)) (hz : ¬ z0 = (0 : Int32)) (S1 : Sta Z Z.heap "jdk/internal/util/Preconditions" "SIOOBE_FORMATTER" "Ljava/util/function/BiFunction;" fm) (hfm : fm.isRef = true) (h10 : 10 ≤ k) :
    MetFree l (⟨"kakehashi/cli/OptionMissingPinLaw", "ok", "(Ljava/lang/String;Ljava/lang/String;Ljava/lang/String;I)Z"⟩ : MethodName) (head1 (Jvm.Cond.code (⟨"kakehashi/cli/OptionMissingPinLaw", "ok", "(Ljava/lang/String;Ljava/lang/String;Ljava/lang/String;I)Z"⟩ : MethodName) method_3_code 6 (some .boolean) :: ws) ({ frames := 5, cells := 0, slots := 0, locals := 70 } : Room)) (fun a U => a = #[(.ref b0), (.ref b1), (.ref b2), (.int j)] ∧ Z.Warmed39 U.vm ∧ U.heap = h0 ∧ CHv Z own_EL U.vm h0) (fun _ _ _ _ _ => True) (fun _ U o U' => ∃ v L, o = .returned v ∧ QOk Z  h0 n0 v U'.heap L ∧ CHr Z own_EL U.vm U.heap U'.vm U'.heap ∧ ReturnedEndW U o U' L ({ frames := 5, cells := 0, slots := 0, locals := 70 } : Room).cells ({ frames := 5, cells := 0, slots := 0, locals := 70 } : Room).slots) := by
  refine MetFree.of_bodySF (plainFor_of_name pn_kakehashi_cli_OptionMissingPinLaw) hisR ?_
  intro p e s m args below meth c s₁ Bd hml0 hP hK
  obtain ⟨rfl, hZ, hh, hI⟩ := hP
  have hx := Bd.exec
  have hby := Bd.bytes
  have hml : c.maxLocals = 6 := hml0
  have hown : s.vm.findClass "kakehashi/cli/OptionMissingPinLaw" = some m.cls := findClass_of_methodNamed Bd.named
  have hnm := (name_of_methodNamed Bd.named Bd.method).1
  have X0 : Stand p l e ({ frames := 5, cells := 0, slots := 0, locals := 70 } : Room) s m #[(.ref b0), (.ref b1), (.ref b2), (.int j)] below meth c s₁ [] 0 0 := Stand.of_body Bd
  have e0 : s₁.heap = h0 := by rw [← hh, Bd.state]; rfl
  have N0 := Fr.nil n0
  have pre0 : ∀ t, Steps p.tables e below (s₁.setTop (mkF m 0 #[.val (.ref b0), .val (.ref b1), .val (.ref b2), .val (.int j), .unset, .unset] [])) t → Steps p.tables e below (s₁.setTop (entryFrame m #[(.ref b0), (.ref b1), (.ref b2), (.int j)] 6)) t := fun t kt => castTop (ef_rmOl m b0 b1 b2 j) kt
  have hwc : ∀ d ∈ StrChars.Road.wordsChN, d.before a0 Z = true := fun d hd => hw d ((by decide +kernel : ∀ d ∈ StrChars.Road.wordsChN, d ∈ tables_1) d hd)
  have lM : ∀ c ∈ (own_M cs ds), ¬ c < 0 ∧ ¬ (255 : Int32) < c := own_lM lcs lds
  have hM : (own_M cs ds).length ≤ 13 := own_hM hcs hds
  by_cases c0_1 : k < (own_M cs ds).length
  · have pre21 : ∀ t, Steps p.tables e below (s₁.setTop (mkF m 3 #[.val (.ref b0), .val (.ref b1), .val (.ref b2), .val (.int j), .unset, .unset] [(.int j), (.ref b2), (.ref b1)])) t → Steps p.tables e below (s₁.setTop (entryFrame m #[(.ref b0), (.ref b1), (.ref b2), (.int j)] 6)) t := fun t kt => pre0 t (by
      refine XS.aloadN X0.here hx rfl (hb hby d36_0) rfl rfl ?_
      show Steps p.tables e below (s₁.setTop (mkF m 1 #[.val (.ref b0), .val (.ref b1), .val (.ref b2), .val (.int j), .unset, .unset] [(.ref b1)])) _
      refine XS.aloadN X0.here hx rfl (hb hby d36_1) rfl rfl ?_
      show Steps p.tables e below (s₁.setTop (mkF m 2 #[.val (.ref b0), .val (.ref b1), .val (.ref b2), .val (.int j), .unset, .unset] [(.ref b2), (.ref b1)])) _
      refine XS.iloadN X0.here hx rfl (hb hby d36_2) rfl ?_
      show Steps p.tables e below (s₁.setTop (mkF m 3 #[.val (.ref b0), .val (.ref b1), .val (.ref b2), .val (.int j), .unset, .unset] [(.int j), (.ref b2), (.ref b1)])) _
      exact kt)
    have sf23 : ∀ y ∈ ([] : List Addr), Safe Z own_EL s.vm h0 y := sf0
    have ch23 : CHr Z own_EL s.vm h0 s.vm h0 := CHr.trans (CHr.refl hI) (CHr.keep (Keep.refl h0 []) sf23 ((CHr.refl hI)).1)
    obtain ⟨_, _, ⟨T22, L22, k22, n22⟩, -, X22, hS22, hgr22, ⟨Lc22, hQ22, l22, y22, z22, hC22⟩, st22⟩ := callSS X0 hx (y := (⟨"kakehashi/cli/OptionMissingPinLaw", "expectedAt", "(Ljava/lang/String;Ljava/lang/String;I)I"⟩ : MethodName)) hown (mvT hZ (hw _ (List.mem_of_getElem? (i := 228) rfl))) (mvT hZ (hw _ (List.mem_of_getElem? (i := 229) rfl))) (mvT hZ (hw _ (List.mem_of_getElem? (i := 2) rfl))) (mvT hZ (hw _ (List.mem_of_getElem? (i := 230) rfl))) (by decide) (backOfSH (s := s) (vm0 := s.vm) (W := 0) (rmXb l Z a0 hw [] b1 b2 c1 c2 _ _ cs ds k j z0 fm h0 n0 Z0 Sn0 Sn1 Sn2 Sn3 Sv0 Sv1 Sv2 Sv3 hcs hds lcs lds hj hk O0 S0 hz S1 hfm h10) hZ (hw _ (List.mem_of_getElem? (i := 230) rfl)) (hw _ (List.mem_of_getElem? (i := 2) rfl)) (by decide) (by decide) (own_EW hw) (ch23).1) (g := (mkF m 3 #[.val (.ref b0), .val (.ref b1), .val (.ref b2), .val (.int j), .unset, .unset] [(.int j), (.ref b2), (.ref b1)])) rfl (by rw [hml]; rfl) (argsL := [(.ref b1), (.ref b2), (.int j)]) (rest := []) (lenOf pd__28Ljava_2flang_2fString_3bLjava_2flang_2fString_3bI_29I rfl) rfl (by show 2 * 0 + _ ≤ _; exact Nat.le_of_eq rfl) (hb hby d36_3) (fun _ _ => ⟨rfl, e0, (by decide : 0 + 0 ≤ _), (by decide : 0 + 0 ≤ _)⟩)
    dsimp only [Pt.U, Pt.locs, Pt.cells, Pt.slots] at X22 l22 y22 z22 st22 hQ22 hC22
    subst l22 y22 z22
    dsimp only [Pt.U] at hS22 hgr22
    have hZ22 : Z.Warmed39 (s.setVm T22.vm).vm := State.Warmed39.trans hZ hS22.1
    have hO22 : (s.setVm T22.vm).vm.findClass "kakehashi/cli/OptionMissingPinLaw" = some m.cls := (hS22.1.alike.findClass _ _).trans hown
    obtain ⟨rfl, N22q, K22⟩ := hQ22
    have N22 := Fr.app N0 N22q
    have f24 := ((Keep.refl h0 [])).trans K22 (own_all0 )
    have f25 := (O0).keep K22 (own_all0 )
    have f26 := ((Keep.refl h0 [])).trans K22 (own_all0 )
    have f27 := (Sm0).keep K22
    have f28 := (Sm1).keep K22 own_notin0
    have f29 := (Sm2).keep K22 own_notin0
    have f30 := (Sm3).keep K22 own_notin0
    have f31 := (Sn0).keep K22
    have f32 := (Sn1).keep K22 own_notin0
    have f33 := (Sn2).keep K22 own_notin0
    have f34 := (Sn3).keep K22 own_notin0
    have f35 := (Sv0).keep K22
    have f36 := (Sv1).keep K22 own_notin0
    have f37 := (Sv2).keep K22 own_notin0
    have f38 := (Sv3).keep K22 own_notin0
    have Zf39 : n0 ≤ T22.heap.size := Nat.le_trans Z0 (K22).1
    have ch40 : CHr Z own_EL s.vm h0 T22.vm T22.heap := CHr.trans ch23 hC22
    have pre41 : ∀ t, Steps p.tables e below (T22.setTop (mkF m 6 #[.val (.ref b0), .val (.ref b1), .val (.ref b2), .val (.int j), .unset, .unset] [(.int (own_exp cs ds k))])) t → Steps p.tables e below (s₁.setTop (entryFrame m #[(.ref b0), (.ref b1), (.ref b2), (.int j)] 6)) t := fun t kt => pre21 t (st22.trans kt)
    have pre42 : ∀ t, Steps p.tables e below (T22.setTop (mkF m 10 #[.val (.ref b0), .val (.ref b1), .val (.ref b2), .val (.int j), .val (.int (own_exp cs ds k)), .unset] [(.ref b0), (.int j)])) t → Steps p.tables e below (s₁.setTop (entryFrame m #[(.ref b0), (.ref b1), (.ref b2), (.int j)] 6)) t := fun t kt => pre41 t (by
      refine XS.istore X22.here hx rfl (hb hby d36_6) rfl (l' := #[.val (.ref b0), .val (.ref b1), .val (.ref b2), .val (.int j), .val (.int (own_exp cs ds k)), .unset]) rfl ?_
      show Steps p.tables e below (T22.setTop (mkF m 8 #[.val (.ref b0), .val (.ref b1), .val (.ref b2), .val (.int j), .val (.int (own_exp cs ds k)), .unset] [])) _
      refine XS.iloadN X22.here hx rfl (hb hby d36_8) rfl ?_
      show Steps p.tables e below (T22.setTop (mkF m 9 #[.val (.ref b0), .val (.ref b1), .val (.ref b2), .val (.int j), .val (.int (own_exp cs ds k)), .unset] [(.int j)])) _
      refine XS.aloadN X22.here hx rfl (hb hby d36_9) rfl rfl ?_
      show Steps p.tables e below (T22.setTop (mkF m 10 #[.val (.ref b0), .val (.ref b1), .val (.ref b2), .val (.int j), .val (.int (own_exp cs ds k)), .unset] [(.ref b0), (.int j)])) _
      exact kt)
    obtain ⟨cq43, kq43, q43a, q43b, q43c⟩ := isOf hZ22 rfl (f27)
    obtain ⟨_, _, ⟨T43, L43, k43, n43⟩, -, X43, ⟨Lc43, hQ43, l43, y43, z43⟩, st43⟩ := X22.virtualBack hx (y := (⟨"java/lang/String", "length", "()I"⟩ : MethodName)) (z := (⟨"java/lang/String", "length", "()I"⟩ : MethodName)) hO22 (mvT hZ22 (hw _ (List.mem_of_getElem? (i := 224) rfl))) (mvT hZ22 (hw _ (List.mem_of_getElem? (i := 79) rfl))) (notFace_of_selects (args := #[]) (mvT hZ22 (hw _ (List.mem_of_getElem? (i := 81) rfl)))) (mvT hZ22 (hw _ (List.mem_of_getElem? (i := 81) rfl))) (mvT hZ22 (hw _ (List.mem_of_getElem? (i := 80) rfl))) (by decide) (backOf (W := 1) (rmLs l Z a0 hw [] b0 c0 _ _ z0 _ T22.heap n0 Zf39 f27 f28 f29 f30 f25 S0 hz) hZ22 (hw _ (List.mem_of_getElem? (i := 82) rfl)) (hw _ (List.mem_of_getElem? (i := 6) rfl)) (by decide) (by decide)) q43a q43c (g := (mkF m 10 #[.val (.ref b0), .val (.ref b1), .val (.ref b2), .val (.int j), .val (.int (own_exp cs ds k)), .unset] [(.ref b0), (.int j)])) rfl (by rw [hml]; rfl) (Steps.refl _) (argsL := []) (rest := [(.int j)]) (lenOf pd__28_29I rfl) rfl (by show 2 * 0 + _ ≤ _; exact Nat.le_of_eq rfl) (hb hby d36_10) (fun _ _ => ⟨rfl, rfl, (by decide : 0 + 0 ≤ _), (by decide : 0 + 0 ≤ _)⟩)
    dsimp only [Pt.U, Pt.locs, Pt.cells, Pt.slots] at X43 l43 y43 z43 st43 hQ43
    subst l43 y43 z43
    obtain ⟨rfl, N43q, e43q⟩ := hQ43
    have N43 := Fr.app N22 N43q
    have pre44 : ∀ t, Steps p.tables e below (T43.setTop (mkF m 13 #[.val (.ref b0), .val (.ref b1), .val (.ref b2), .val (.int j), .val (.int (own_exp cs ds k)), .unset] [(.int (Int32.ofNat (own_M cs ds).length)), (.int j)])) t → Steps p.tables e below (s₁.setTop (entryFrame m #[(.ref b0), (.ref b1), (.ref b2), (.int j)] 6)) t := fun t kt => pre42 t (st43.trans kt)
    have pre45 : ∀ t, Steps p.tables e below (T43.setTop (mkF m 18 #[.val (.ref b0), .val (.ref b1), .val (.ref b2), .val (.int j), .val (.int (own_exp cs ds k)), .unset] [(.int j), (.ref b0)])) t → Steps p.tables e below (s₁.setTop (entryFrame m #[(.ref b0), (.ref b1), (.ref b2), (.int j)] 6)) t := fun t kt => pre44 t (by
      refine XS.icmpNo X43.here hx rfl (hb hby d36_13) rfl (tlt (own_lt4 hj hk hM c0_1 : j < (Int32.ofNat (own_M cs ds).length))).2.1 ?_
      show Steps p.tables e below (T43.setTop (mkF m 16 #[.val (.ref b0), .val (.ref b1), .val (.ref b2), .val (.int j), .val (.int (own_exp cs ds k)), .unset] [])) _
      refine XS.aloadN X43.here hx rfl (hb hby d36_16) rfl rfl ?_
      show Steps p.tables e below (T43.setTop (mkF m 17 #[.val (.ref b0), .val (.ref b1), .val (.ref b2), .val (.int j), .val (.int (own_exp cs ds k)), .unset] [(.ref b0)])) _
      refine XS.iloadN X43.here hx rfl (hb hby d36_17) rfl ?_
      show Steps p.tables e below (T43.setTop (mkF m 18 #[.val (.ref b0), .val (.ref b1), .val (.ref b2), .val (.int j), .val (.int (own_exp cs ds k)), .unset] [(.int j), (.ref b0)])) _
      exact kt)
    obtain ⟨cq46, kq46, q46a, q46b, q46c⟩ := isOf hZ22 e43q (f27)
    obtain ⟨_, _, ⟨T46, L46, k46, n46⟩, -, X46, ⟨Lc46, hQ46, l46, y46, z46⟩, st46⟩ := X43.virtualBack hx (y := (⟨"java/lang/String", "charAt", "(I)C"⟩ : MethodName)) (z := (⟨"java/lang/String", "charAt", "(I)C"⟩ : MethodName)) hO22 (mvT hZ22 (hw _ (List.mem_of_getElem? (i := 232) rfl))) (mvT hZ22 (hw _ (List.mem_of_getElem? (i := 233) rfl))) (notFace_of_selects (args := #[]) (mvT hZ22 (hw _ (List.mem_of_getElem? (i := 235) rfl)))) (mvT hZ22 (hw _ (List.mem_of_getElem? (i := 235) rfl))) (mvT hZ22 (hw _ (List.mem_of_getElem? (i := 234) rfl))) (by decide) (StrChars.Road.chN (W := 0) hZ22 hwc (kI := 4) (hw _ (List.mem_of_getElem? (i := 5) rfl)) (cs := (own_M cs ds)) (i := k) (j := j) f27 f28 f29 f30 (StrChars.Road.codOf rfl (fun c q => (lM c q).2)) (fun c q => ⟨(lM c q).1, own_65 (lM c q).2⟩) (S0.ext (f25).2) hz (S1.ext (f25).2) hfm (own_4000 hM) c0_1 hj (by decide) (by decide)) q46a q46c (g := (mkF m 18 #[.val (.ref b0), .val (.ref b1), .val (.ref b2), .val (.int j), .val (.int (own_exp cs ds k)), .unset] [(.int j), (.ref b0)])) rfl (by rw [hml]; rfl) (Steps.refl _) (argsL := [(.int j)]) (rest := []) (lenOf pd__28I_29C rfl) rfl (by show 2 * 0 + _ ≤ _; exact Nat.le_of_eq rfl) (hb hby d36_18) (fun _ _ => ⟨rfl, e43q, (by decide : 0 + 0 ≤ _), (by decide : 0 + 0 ≤ _)⟩)
    dsimp only [Pt.U, Pt.locs, Pt.cells, Pt.slots] at X46 l46 y46 z46 st46 hQ46
    subst l46 y46 z46
    obtain ⟨rfl, rfl, e46q⟩ := hQ46
    have N46q : Fr n0 [] := Fr.nil n0
    have N46 := Fr.app N43 N46q
    have pre47 : ∀ t, Steps p.tables e below (T46.setTop (mkF m 21 #[.val (.ref b0), .val (.ref b1), .val (.ref b2), .val (.int j), .val (.int (own_exp cs ds k)), .unset] [(.int ((own_M cs ds).getD k 0))])) t → Steps p.tables e below (s₁.setTop (entryFrame m #[(.ref b0), (.ref b1), (.ref b2), (.int j)] 6)) t := fun t kt => pre45 t (st46.trans kt)
    have pre48 : ∀ t, Steps p.tables e below (T46.setTop (mkF m 39 #[.val (.ref b0), .val (.ref b1), .val (.ref b2), .val (.int j), .val (.int (own_exp cs ds k)), .val (.int ((own_M cs ds).getD k 0))] [(.int (1 : Int32))])) t → Steps p.tables e below (s₁.setTop (entryFrame m #[(.ref b0), (.ref b1), (.ref b2), (.int j)] 6)) t := fun t kt => pre47 t (by
      refine XS.goto X46.here hx rfl (pc0 := 21) (pc' := 25) rfl (hb hby d36_21) (by decide) (by decide) ?_
      show Steps p.tables e below (T46.setTop (mkF m 25 #[.val (.ref b0), .val (.ref b1), .val (.ref b2), .val (.int j), .val (.int (own_exp cs ds k)), .unset] [(.int ((own_M cs ds).getD k 0))])) _
      refine XS.istore X46.here hx rfl (hb hby d36_25) rfl (l' := #[.val (.ref b0), .val (.ref b1), .val (.ref b2), .val (.int j), .val (.int (own_exp cs ds k)), .val (.int ((own_M cs ds).getD k 0))]) rfl ?_
      show Steps p.tables e below (T46.setTop (mkF m 27 #[.val (.ref b0), .val (.ref b1), .val (.ref b2), .val (.int j), .val (.int (own_exp cs ds k)), .val (.int ((own_M cs ds).getD k 0))] [])) _
      refine XS.iload X46.here hx rfl (hb hby d36_27) rfl ?_
      show Steps p.tables e below (T46.setTop (mkF m 29 #[.val (.ref b0), .val (.ref b1), .val (.ref b2), .val (.int j), .val (.int (own_exp cs ds k)), .val (.int ((own_M cs ds).getD k 0))] [(.int (own_exp cs ds k))])) _
      refine XS.iload X46.here hx rfl (hb hby d36_29) rfl ?_
      show Steps p.tables e below (T46.setTop (mkF m 31 #[.val (.ref b0), .val (.ref b1), .val (.ref b2), .val (.int j), .val (.int (own_exp cs ds k)), .val (.int ((own_M cs ds).getD k 0))] [(.int ((own_M cs ds).getD k 0)), (.int (own_exp cs ds k))])) _
      refine XS.icmpNo X46.here hx rfl (hb hby d36_31) rfl (teq (own_eq1 c0_1 : (own_exp cs ds k) = ((own_M cs ds).getD k 0))).2 ?_
      show Steps p.tables e below (T46.setTop (mkF m 34 #[.val (.ref b0), .val (.ref b1), .val (.ref b2), .val (.int j), .val (.int (own_exp cs ds k)), .val (.int ((own_M cs ds).getD k 0))] [])) _
      refine XS.iconst X46.here hx rfl (hb hby d36_34) ?_
      show Steps p.tables e below (T46.setTop (mkF m 35 #[.val (.ref b0), .val (.ref b1), .val (.ref b2), .val (.int j), .val (.int (own_exp cs ds k)), .val (.int ((own_M cs ds).getD k 0))] [(.int (1 : Int32))])) _
      refine XS.goto X46.here hx rfl (pc0 := 35) (pc' := 39) rfl (hb hby d36_35) (by decide) (by decide) ?_
      show Steps p.tables e below (T46.setTop (mkF m 39 #[.val (.ref b0), .val (.ref b1), .val (.ref b2), .val (.int j), .val (.int (own_exp cs ds k)), .val (.int ((own_M cs ds).getD k 0))] [(.int (1 : Int32))])) _
      exact kt)
    have sf50 : ∀ y ∈ ([] : List Addr), Safe Z own_EL T22.vm T22.heap y := sf0
    have ch50 : CHr Z own_EL s.vm h0 T22.vm T22.heap := CHr.trans ch40 (CHr.keep (Keep.refl T22.heap []) sf50 (ch40).1)
    have hCf : CHr Z own_EL s.vm s.heap T46.vm T46.heap := by
      rw [hh, e46q]
      exact CHr.trans ch50 (CHv.at (s := s) (vm0 := T22.vm) X46 hZ22 (own_EW hw) (ch50).1)
    obtain ⟨fs, hr, hrun, hended, hRE⟩ := X46.leaveW hS22 (by rw [e46q]; exact (Nat.le_refl _)) (v := (some (.int (1 : Int32)))) (fun h => by rw [Bd.returns] at h; cases h)
    refine ⟨_, _, pre48 _ ?_, hrun, hended, _, _, rfl, ?_, hCf, hRE.1, hRE.2.1, hRE.2.2.1, hRE.2.2.2.mono (by decide) (by decide)⟩
    · exact retN X46 hx (t := .boolean) Bd.returns (by simp) (hb hby d36_39) hr
    · show QOk Z  h0 n0 _ T46.heap _
      rw [e46q]
      exact ⟨rfl, N46, f26⟩
  · have pre51 : ∀ t, Steps p.tables e below (s₁.setTop (mkF m 3 #[.val (.ref b0), .val (.ref b1), .val (.ref b2), .val (.int j), .unset, .unset] [(.int j), (.ref b2), (.ref b1)])) t → Steps p.tables e below (s₁.setTop (entryFrame m #[(.ref b0), (.ref b1), (.ref b2), (.int j)] 6)) t := fun t kt => pre0 t (by
      refine XS.aloadN X0.here hx rfl (hb hby d36_0) rfl rfl ?_
      show Steps p.tables e below (s₁.setTop (mkF m 1 #[.val (.ref b0), .val (.ref b1), .val (.ref b2), .val (.int j), .unset, .unset] [(.ref b1)])) _
      refine XS.aloadN X0.here hx rfl (hb hby d36_1) rfl rfl ?_
      show Steps p.tables e below (s₁.setTop (mkF m 2 #[.val (.ref b0), .val (.ref b1), .val (.ref b2), .val (.int j), .unset, .unset] [(.ref b2), (.ref b1)])) _
      refine XS.iloadN X0.here hx rfl (hb hby d36_2) rfl ?_
      show Steps p.tables e below (s₁.setTop (mkF m 3 #[.val (.ref b0), .val (.ref b1), .val (.ref b2), .val (.int j), .unset, .unset] [(.int j), (.ref b2), (.ref b1)])) _
      exact kt)
    have sf53 : ∀ y ∈ ([] : List Addr), Safe Z own_EL s.vm h0 y := sf0
    have ch53 : CHr Z own_EL s.vm h0 s.vm h0 := CHr.trans (CHr.refl hI) (CHr.keep (Keep.refl h0 []) sf53 ((CHr.refl hI)).1)
    obtain ⟨_, _, ⟨T52, L52, k52, n52⟩, -, X52, hS52, hgr52, ⟨Lc52, hQ52, l52, y52, z52, hC52⟩, st52⟩ := callSS X0 hx (y := (⟨"kakehashi/cli/OptionMissingPinLaw", "expectedAt", "(Ljava/lang/String;Ljava/lang/String;I)I"⟩ : MethodName)) hown (mvT hZ (hw _ (List.mem_of_getElem? (i := 228) rfl))) (mvT hZ (hw _ (List.mem_of_getElem? (i := 229) rfl))) (mvT hZ (hw _ (List.mem_of_getElem? (i := 2) rfl))) (mvT hZ (hw _ (List.mem_of_getElem? (i := 230) rfl))) (by decide) (backOfSH (s := s) (vm0 := s.vm) (W := 0) (rmXb l Z a0 hw [] b1 b2 c1 c2 _ _ cs ds k j z0 fm h0 n0 Z0 Sn0 Sn1 Sn2 Sn3 Sv0 Sv1 Sv2 Sv3 hcs hds lcs lds hj hk O0 S0 hz S1 hfm h10) hZ (hw _ (List.mem_of_getElem? (i := 230) rfl)) (hw _ (List.mem_of_getElem? (i := 2) rfl)) (by decide) (by decide) (own_EW hw) (ch53).1) (g := (mkF m 3 #[.val (.ref b0), .val (.ref b1), .val (.ref b2), .val (.int j), .unset, .unset] [(.int j), (.ref b2), (.ref b1)])) rfl (by rw [hml]; rfl) (argsL := [(.ref b1), (.ref b2), (.int j)]) (rest := []) (lenOf pd__28Ljava_2flang_2fString_3bLjava_2flang_2fString_3bI_29I rfl) rfl (by show 2 * 0 + _ ≤ _; exact Nat.le_of_eq rfl) (hb hby d36_3) (fun _ _ => ⟨rfl, e0, (by decide : 0 + 0 ≤ _), (by decide : 0 + 0 ≤ _)⟩)
    dsimp only [Pt.U, Pt.locs, Pt.cells, Pt.slots] at X52 l52 y52 z52 st52 hQ52 hC52
    subst l52 y52 z52
    dsimp only [Pt.U] at hS52 hgr52
    have hZ52 : Z.Warmed39 (s.setVm T52.vm).vm := State.Warmed39.trans hZ hS52.1
    have hO52 : (s.setVm T52.vm).vm.findClass "kakehashi/cli/OptionMissingPinLaw" = some m.cls := (hS52.1.alike.findClass _ _).trans hown
    obtain ⟨rfl, N52q, K52⟩ := hQ52
    have N52 := Fr.app N0 N52q
    have f54 := ((Keep.refl h0 [])).trans K52 (own_all0 )
    have f55 := (O0).keep K52 (own_all0 )
    have f56 := ((Keep.refl h0 [])).trans K52 (own_all0 )
    have f57 := (Sm0).keep K52
    have f58 := (Sm1).keep K52 own_notin0
    have f59 := (Sm2).keep K52 own_notin0
    have f60 := (Sm3).keep K52 own_notin0
    have f61 := (Sn0).keep K52
    have f62 := (Sn1).keep K52 own_notin0
    have f63 := (Sn2).keep K52 own_notin0
    have f64 := (Sn3).keep K52 own_notin0
    have f65 := (Sv0).keep K52
    have f66 := (Sv1).keep K52 own_notin0
    have f67 := (Sv2).keep K52 own_notin0
    have f68 := (Sv3).keep K52 own_notin0
    have Zf69 : n0 ≤ T52.heap.size := Nat.le_trans Z0 (K52).1
    have ch70 : CHr Z own_EL s.vm h0 T52.vm T52.heap := CHr.trans ch53 hC52
    have pre71 : ∀ t, Steps p.tables e below (T52.setTop (mkF m 6 #[.val (.ref b0), .val (.ref b1), .val (.ref b2), .val (.int j), .unset, .unset] [(.int (own_exp cs ds k))])) t → Steps p.tables e below (s₁.setTop (entryFrame m #[(.ref b0), (.ref b1), (.ref b2), (.int j)] 6)) t := fun t kt => pre51 t (st52.trans kt)
    have pre72 : ∀ t, Steps p.tables e below (T52.setTop (mkF m 10 #[.val (.ref b0), .val (.ref b1), .val (.ref b2), .val (.int j), .val (.int (own_exp cs ds k)), .unset] [(.ref b0), (.int j)])) t → Steps p.tables e below (s₁.setTop (entryFrame m #[(.ref b0), (.ref b1), (.ref b2), (.int j)] 6)) t := fun t kt => pre71 t (by
      refine XS.istore X52.here hx rfl (hb hby d36_6) rfl (l' := #[.val (.ref b0), .val (.ref b1), .val (.ref b2), .val (.int j), .val (.int (own_exp cs ds k)), .unset]) rfl ?_
      show Steps p.tables e below (T52.setTop (mkF m 8 #[.val (.ref b0), .val (.ref b1), .val (.ref b2), .val (.int j), .val (.int (own_exp cs ds k)), .unset] [])) _
      refine XS.iloadN X52.here hx rfl (hb hby d36_8) rfl ?_
      show Steps p.tables e below (T52.setTop (mkF m 9 #[.val (.ref b0), .val (.ref b1), .val (.ref b2), .val (.int j), .val (.int (own_exp cs ds k)), .unset] [(.int j)])) _
      refine XS.aloadN X52.here hx rfl (hb hby d36_9) rfl rfl ?_
      show Steps p.tables e below (T52.setTop (mkF m 10 #[.val (.ref b0), .val (.ref b1), .val (.ref b2), .val (.int j), .val (.int (own_exp cs ds k)), .unset] [(.ref b0), (.int j)])) _
      exact kt)
    obtain ⟨cq73, kq73, q73a, q73b, q73c⟩ := isOf hZ52 rfl (f57)
    obtain ⟨_, _, ⟨T73, L73, k73, n73⟩, -, X73, ⟨Lc73, hQ73, l73, y73, z73⟩, st73⟩ := X52.virtualBack hx (y := (⟨"java/lang/String", "length", "()I"⟩ : MethodName)) (z := (⟨"java/lang/String", "length", "()I"⟩ : MethodName)) hO52 (mvT hZ52 (hw _ (List.mem_of_getElem? (i := 224) rfl))) (mvT hZ52 (hw _ (List.mem_of_getElem? (i := 79) rfl))) (notFace_of_selects (args := #[]) (mvT hZ52 (hw _ (List.mem_of_getElem? (i := 81) rfl)))) (mvT hZ52 (hw _ (List.mem_of_getElem? (i := 81) rfl))) (mvT hZ52 (hw _ (List.mem_of_getElem? (i := 80) rfl))) (by decide) (backOf (W := 1) (rmLs l Z a0 hw [] b0 c0 _ _ z0 _ T52.heap n0 Zf69 f57 f58 f59 f60 f55 S0 hz) hZ52 (hw _ (List.mem_of_getElem? (i := 82) rfl)) (hw _ (List.mem_of_getElem? (i := 6) rfl)) (by decide) (by decide)) q73a q73c (g := (mkF m 10 #[.val (.ref b0), .val (.ref b1), .val (.ref b2), .val (.int j), .val (.int (own_exp cs ds k)), .unset] [(.ref b0), (.int j)])) rfl (by rw [hml]; rfl) (Steps.refl _) (argsL := []) (rest := [(.int j)]) (lenOf pd__28_29I rfl) rfl (by show 2 * 0 + _ ≤ _; exact Nat.le_of_eq rfl) (hb hby d36_10) (fun _ _ => ⟨rfl, rfl, (by decide : 0 + 0 ≤ _), (by decide : 0 + 0 ≤ _)⟩)
    dsimp only [Pt.U, Pt.locs, Pt.cells, Pt.slots] at X73 l73 y73 z73 st73 hQ73
    subst l73 y73 z73
    obtain ⟨rfl, N73q, e73q⟩ := hQ73
    have N73 := Fr.app N52 N73q
    have pre74 : ∀ t, Steps p.tables e below (T73.setTop (mkF m 13 #[.val (.ref b0), .val (.ref b1), .val (.ref b2), .val (.int j), .val (.int (own_exp cs ds k)), .unset] [(.int (Int32.ofNat (own_M cs ds).length)), (.int j)])) t → Steps p.tables e below (s₁.setTop (entryFrame m #[(.ref b0), (.ref b1), (.ref b2), (.int j)] 6)) t := fun t kt => pre72 t (st73.trans kt)
    have pre75 : ∀ t, Steps p.tables e below (T73.setTop (mkF m 39 #[.val (.ref b0), .val (.ref b1), .val (.ref b2), .val (.int j), .val (.int (own_exp cs ds k)), .val (.int (-1 : Int32))] [(.int (1 : Int32))])) t → Steps p.tables e below (s₁.setTop (entryFrame m #[(.ref b0), (.ref b1), (.ref b2), (.int j)] 6)) t := fun t kt => pre74 t (by
      refine XS.icmpYes X73.here hx rfl (pc0 := 13) (pc' := 24) rfl (hb hby d36_13) rfl (flt (own_lt4n hj hk hM c0_1 : ¬ (j < (Int32.ofNat (own_M cs ds).length)))).2.1 (by decide) (by decide) ?_
      show Steps p.tables e below (T73.setTop (mkF m 24 #[.val (.ref b0), .val (.ref b1), .val (.ref b2), .val (.int j), .val (.int (own_exp cs ds k)), .unset] [])) _
      refine XS.iconst X73.here hx rfl (hb hby d36_24) ?_
      show Steps p.tables e below (T73.setTop (mkF m 25 #[.val (.ref b0), .val (.ref b1), .val (.ref b2), .val (.int j), .val (.int (own_exp cs ds k)), .unset] [(.int (-1 : Int32))])) _
      refine XS.istore X73.here hx rfl (hb hby d36_25) rfl (l' := #[.val (.ref b0), .val (.ref b1), .val (.ref b2), .val (.int j), .val (.int (own_exp cs ds k)), .val (.int (-1 : Int32))]) rfl ?_
      show Steps p.tables e below (T73.setTop (mkF m 27 #[.val (.ref b0), .val (.ref b1), .val (.ref b2), .val (.int j), .val (.int (own_exp cs ds k)), .val (.int (-1 : Int32))] [])) _
      refine XS.iload X73.here hx rfl (hb hby d36_27) rfl ?_
      show Steps p.tables e below (T73.setTop (mkF m 29 #[.val (.ref b0), .val (.ref b1), .val (.ref b2), .val (.int j), .val (.int (own_exp cs ds k)), .val (.int (-1 : Int32))] [(.int (own_exp cs ds k))])) _
      refine XS.iload X73.here hx rfl (hb hby d36_29) rfl ?_
      show Steps p.tables e below (T73.setTop (mkF m 31 #[.val (.ref b0), .val (.ref b1), .val (.ref b2), .val (.int j), .val (.int (own_exp cs ds k)), .val (.int (-1 : Int32))] [(.int (-1 : Int32)), (.int (own_exp cs ds k))])) _
      refine XS.icmpNo X73.here hx rfl (hb hby d36_31) rfl (teq (own_eq2 c0_1 : (own_exp cs ds k) = (-1 : Int32))).2 ?_
      show Steps p.tables e below (T73.setTop (mkF m 34 #[.val (.ref b0), .val (.ref b1), .val (.ref b2), .val (.int j), .val (.int (own_exp cs ds k)), .val (.int (-1 : Int32))] [])) _
      refine XS.iconst X73.here hx rfl (hb hby d36_34) ?_
      show Steps p.tables e below (T73.setTop (mkF m 35 #[.val (.ref b0), .val (.ref b1), .val (.ref b2), .val (.int j), .val (.int (own_exp cs ds k)), .val (.int (-1 : Int32))] [(.int (1 : Int32))])) _
      refine XS.goto X73.here hx rfl (pc0 := 35) (pc' := 39) rfl (hb hby d36_35) (by decide) (by decide) ?_
      show Steps p.tables e below (T73.setTop (mkF m 39 #[.val (.ref b0), .val (.ref b1), .val (.ref b2), .val (.int j), .val (.int (own_exp cs ds k)), .val (.int (-1 : Int32))] [(.int (1 : Int32))])) _
      exact kt)
    have sf77 : ∀ y ∈ ([] : List Addr), Safe Z own_EL T52.vm T52.heap y := sf0
    have ch77 : CHr Z own_EL s.vm h0 T52.vm T52.heap := CHr.trans ch70 (CHr.keep (Keep.refl T52.heap []) sf77 (ch70).1)
    have hCf : CHr Z own_EL s.vm s.heap T73.vm T73.heap := by
      rw [hh, e73q]
      exact CHr.trans ch77 (CHv.at (s := s) (vm0 := T52.vm) X73 hZ52 (own_EW hw) (ch77).1)
    obtain ⟨fs, hr, hrun, hended, hRE⟩ := X73.leaveW hS52 (by rw [e73q]; exact (Nat.le_refl _)) (v := (some (.int (1 : Int32)))) (fun h => by rw [Bd.returns] at h; cases h)
    refine ⟨_, _, pre75 _ ?_, hrun, hended, _, _, rfl, ?_, hCf, hRE.1, hRE.2.1, hRE.2.2.1, hRE.2.2.2.mono (by decide) (by decide)⟩
    · exact retN X73 hx (t := .boolean) Bd.returns (by simp) (hb hby d36_39) hr
    · show QOk Z  h0 n0 _ T73.heap _
      rw [e73q]
      exact ⟨rfl, N73, f56⟩
def Q0 (Z : State) (h0 : Heap) (n0 : Nat) (v : Option Value) (h : Heap) (L : List Loc) : Prop := v = some (.int (1 : Int32)) ∧ Fr n0 L
theorem ef_rm0 (m : MethodId) (x0 : Int32) (x1 : Int32) : entryFrame m #[(.int x0), (.int x1)] maxLocals = mkF m 0 #[.val (.int x0), .val (.int x1), .unset, .unset, .unset, .unset, .unset, .unset] [] := by first | (simp [entryFrame, mkF, argsToLocals, Value.category, maxLocals]; done) | rfl
theorem pd__28I_29Ljava_2flang_2fString_3b : parseMethodDescriptor "(I)Ljava/lang/String;" = some ⟨[.int], some (.object "java/lang/String")⟩ := by decide +kernel
theorem pd__28Ljava_2flang_2fString_3bLjava_2flang_2fString_3b_29V : parseMethodDescriptor "(Ljava/lang/String;Ljava/lang/String;)V" = some ⟨[(.object "java/lang/String"), (.object "java/lang/String")], none⟩ := by decide +kernel
theorem pd__28_29Lkakehashi_2fcli_2fUsageException_3b : parseMethodDescriptor "()Lkakehashi/cli/UsageException;" = some ⟨[], some (.object "kakehashi/cli/UsageException")⟩ := by decide +kernel
theorem pd__28Ljava_2flang_2fString_3bLjava_2flang_2fString_3bLjava_2flang_2fString_3bI_29Z : parseMethodDescriptor "(Ljava/lang/String;Ljava/lang/String;Ljava/lang/String;I)Z" = some ⟨[(.object "java/lang/String"), (.object "java/lang/String"), (.object "java/lang/String"), .int], some .boolean⟩ := by decide +kernel
set_option maxRecDepth 65536 in
set_option maxHeartbeats 40000000 in
theorem rm0 (l : Launch) (Z : State) (a0 : Array Value) (hw : ∀ d ∈ tables_1, d.before a0 Z = true) (ws : List Jvm.Cond) (p1 p2 z0 : Int32) (ua ub : Addr) (fm : Value) (h0 : Heap) (n0 : Nat) (Z0 : n0 ≤ h0.size) (hl : l.stackTraces = true) (T1 : Sta Z Z.heap "java/lang/Throwable" "UNASSIGNED_STACK" "[Ljava/lang/StackTraceElement;" (.ref ua)) (T2 : Sta Z Z.heap "java/lang/Throwable" "SUPPRESSED_SENTINEL" "Ljava/util/List;" (.ref ub)) (O0 : OldL Z n0 h0) (S0 : Sta Z Z.heap "java/lang/String" "COMPACT_STRINGS" "Z" (.int z0)) (hz : ¬ z0 = (0 : Int32)) (S1 : Sta Z Z.heap "jdk/internal/util/Preconditions" "SIOOBE_FORMATTER" "Ljava/util/function/BiFunction;" fm) (hfm : fm.isRef = true) :
    MetFree l x (head1 (Jvm.Cond.code x code maxLocals ret :: ws) room_1) (fun a U => a = #[(.int p1), (.int p2)] ∧ Z.Warmed39 U.vm ∧ U.heap = h0 ∧ CHv Z own_EL U.vm h0) (fun _ _ _ s _ => framesKnown s = true ∧ tablesKnown s = true) (fun _ U o U' => ∃ v L, o = .returned v ∧ Q0 Z  h0 n0 v U'.heap L ∧ CHr Z own_EL U.vm U.heap U'.vm U'.heap ∧ ReturnedEndW U o U' L room_1.cells room_1.slots) := by
  refine MetFree.of_bodySF (plainFor_of_name pn_kakehashi_cli_OptionMissingPinLaw) hisR ?_
  intro p e s m args below meth c s₁ Bd hml0 hP hK
  obtain ⟨rfl, hZ, hh, hI⟩ := hP
  have hx := Bd.exec
  have hby := Bd.bytes
  have hml : c.maxLocals = 8 := hml0
  have hown : s.vm.findClass "kakehashi/cli/OptionMissingPinLaw" = some m.cls := findClass_of_methodNamed Bd.named
  have hnm := (name_of_methodNamed Bd.named Bd.method).1
  have X0 : Stand p l e room_1 s m #[(.int p1), (.int p2)] below meth c s₁ [] 0 0 := Stand.of_body Bd
  have e0 : s₁.heap = h0 := by rw [← hh, Bd.state]; rfl
  have N0 := Fr.nil n0
  obtain ⟨hTK, hBelow⟩ := X0.known hK.2 hK.1
  have pre0 : ∀ t, Steps p.tables e below (s₁.setTop (mkF m 0 #[.val (.int p1), .val (.int p2), .unset, .unset, .unset, .unset, .unset, .unset] [])) t → Steps p.tables e below (s₁.setTop (entryFrame m #[(.int p1), (.int p2)] maxLocals)) t := fun t kt => castTop (ef_rm0 m p1 p2) kt
  have pre21 : ∀ t, Steps p.tables e below (s₁.setTop (mkF m 1 #[.val (.int p1), .val (.int p2), .unset, .unset, .unset, .unset, .unset, .unset] [(.int p1)])) t → Steps p.tables e below (s₁.setTop (entryFrame m #[(.int p1), (.int p2)] maxLocals)) t := fun t kt => pre0 t (by
    refine XS.iloadN X0.here hx rfl (hb hby at_0) rfl ?_
    show Steps p.tables e below (s₁.setTop (mkF m 1 #[.val (.int p1), .val (.int p2), .unset, .unset, .unset, .unset, .unset, .unset] [(.int p1)])) _
    exact kt)
  have sf23 : ∀ y ∈ ([] : List Addr), Safe Z own_EL s.vm h0 y := sf0
  have ch23 : CHr Z own_EL s.vm h0 s.vm h0 := CHr.trans (CHr.refl hI) (CHr.keep (Keep.refl h0 []) sf23 ((CHr.refl hI)).1)
  obtain ⟨_, _, ⟨T22, L22, k22, n22⟩, -, X22, hS22, hgr22, ⟨Lc22, hQ22, l22, y22, z22, hC22⟩, st22⟩ := callSS X0 hx (y := (⟨"kakehashi/cli/OptionMissingPinLaw", "make", "(I)Ljava/lang/String;"⟩ : MethodName)) hown (mvT hZ (hw _ (List.mem_of_getElem? (i := 0) rfl))) (mvT hZ (hw _ (List.mem_of_getElem? (i := 1) rfl))) (mvT hZ (hw _ (List.mem_of_getElem? (i := 2) rfl))) (mvT hZ (hw _ (List.mem_of_getElem? (i := 3) rfl))) (by decide) (backOfSH (s := s) (vm0 := s.vm) (W := 0) (rmMk l Z a0 hw [] p1 z0 h0 n0 Z0 O0 S0 hz) hZ (hw _ (List.mem_of_getElem? (i := 3) rfl)) (hw _ (List.mem_of_getElem? (i := 2) rfl)) (by decide) (by decide) (own_EW hw) (ch23).1) (g := (mkF m 1 #[.val (.int p1), .val (.int p2), .unset, .unset, .unset, .unset, .unset, .unset] [(.int p1)])) rfl (by rw [hml]; rfl) (argsL := [(.int p1)]) (rest := []) (lenOf pd__28I_29Ljava_2flang_2fString_3b rfl) rfl (by show 2 * 0 + _ ≤ _; exact Nat.le_of_eq rfl) (hb hby at_1) (fun _ _ => ⟨rfl, e0, (by decide : 0 + 4 ≤ _), (by decide : 0 + 10 ≤ _)⟩)
  dsimp only [Pt.U, Pt.locs, Pt.cells, Pt.slots] at X22 l22 y22 z22 st22 hQ22 hC22
  subst l22 y22 z22
  dsimp only [Pt.U] at hS22 hgr22
  have hZ22 : Z.Warmed39 (s.setVm T22.vm).vm := State.Warmed39.trans hZ hS22.1
  have hO22 : (s.setVm T22.vm).vm.findClass "kakehashi/cli/OptionMissingPinLaw" = some m.cls := (hS22.1.alike.findClass _ _).trans hown
  obtain ⟨x22, t22, kt22, cs22, rfl, N22q, K22, hl22, lat22, E22x, Fv22, Fc22, Va22⟩ := hQ22
  have N22 := Fr.app N0 N22q
  have f24 := ((Keep.refl h0 [])).trans K22 (own_all0 )
  have f25 := (O0).keep K22 (own_all0 )
  have Zf26 : n0 ≤ T22.heap.size := Nat.le_trans Z0 (K22).1
  have ch27 : CHr Z own_EL s.vm h0 T22.vm T22.heap := CHr.trans ch23 hC22
  have pre28 : ∀ t, Steps p.tables e below (T22.setTop (mkF m 4 #[.val (.int p1), .val (.int p2), .unset, .unset, .unset, .unset, .unset, .unset] [(.ref x22)])) t → Steps p.tables e below (s₁.setTop (entryFrame m #[(.int p1), (.int p2)] maxLocals)) t := fun t kt => pre21 t (st22.trans kt)
  have pre29 : ∀ t, Steps p.tables e below (T22.setTop (mkF m 6 #[.val (.int p1), .val (.int p2), .val (.ref x22), .unset, .unset, .unset, .unset, .unset] [(.int p2)])) t → Steps p.tables e below (s₁.setTop (entryFrame m #[(.int p1), (.int p2)] maxLocals)) t := fun t kt => pre28 t (by
    refine XS.astoreN X22.here hx rfl (hb hby at_4) rfl rfl (l' := #[.val (.int p1), .val (.int p2), .val (.ref x22), .unset, .unset, .unset, .unset, .unset]) rfl ?_
    show Steps p.tables e below (T22.setTop (mkF m 5 #[.val (.int p1), .val (.int p2), .val (.ref x22), .unset, .unset, .unset, .unset, .unset] [])) _
    refine XS.iloadN X22.here hx rfl (hb hby at_5) rfl ?_
    show Steps p.tables e below (T22.setTop (mkF m 6 #[.val (.int p1), .val (.int p2), .val (.ref x22), .unset, .unset, .unset, .unset, .unset] [(.int p2)])) _
    exact kt)
  have sf31 : ∀ y ∈ ([] : List Addr), Safe Z own_EL T22.vm T22.heap y := sf0
  have ch31 : CHr Z own_EL s.vm h0 T22.vm T22.heap := CHr.trans ch27 (CHr.keep (Keep.refl T22.heap []) sf31 (ch27).1)
  obtain ⟨_, _, ⟨T30, L30, k30, n30⟩, -, X30, hS30, hgr30, ⟨Lc30, hQ30, l30, y30, z30, hC30⟩, st30⟩ := callSS X22 hx (y := (⟨"kakehashi/cli/OptionMissingPinLaw", "make", "(I)Ljava/lang/String;"⟩ : MethodName)) hO22 (mvT hZ22 (hw _ (List.mem_of_getElem? (i := 0) rfl))) (mvT hZ22 (hw _ (List.mem_of_getElem? (i := 1) rfl))) (mvT hZ22 (hw _ (List.mem_of_getElem? (i := 2) rfl))) (mvT hZ22 (hw _ (List.mem_of_getElem? (i := 3) rfl))) (by decide) (backOfSH (s := s) (vm0 := T22.vm) (W := 0) (rmMk l Z a0 hw [] p2 z0 T22.heap n0 Zf26 f25 S0 hz) hZ22 (hw _ (List.mem_of_getElem? (i := 3) rfl)) (hw _ (List.mem_of_getElem? (i := 2) rfl)) (by decide) (by decide) (own_EW hw) (ch31).1) (g := (mkF m 6 #[.val (.int p1), .val (.int p2), .val (.ref x22), .unset, .unset, .unset, .unset, .unset] [(.int p2)])) rfl (by rw [hml]; rfl) (argsL := [(.int p2)]) (rest := []) (lenOf pd__28I_29Ljava_2flang_2fString_3b rfl) rfl (by show 2 * 0 + _ ≤ _; exact Nat.le_of_eq rfl) (hb hby at_6) (fun _ _ => ⟨rfl, rfl, (by decide : 4 + 4 ≤ _), (by decide : 10 + 10 ≤ _)⟩)
  dsimp only [Pt.U, Pt.locs, Pt.cells, Pt.slots] at X30 l30 y30 z30 st30 hQ30 hC30
  subst l30 y30 z30
  dsimp only [Pt.U] at hS30 hgr30
  obtain ⟨X30r, hS30r, hZ30, hO30⟩ := rebS hS22 (Nat.le_refl _) X30 hS30 hgr30 hZ22 hO22
  obtain ⟨x30, t30, kt30, cs30, rfl, N30q, K30, hl30, lat30, E30x, Fv30, Fc30, Va30⟩ := hQ30
  have N30 := Fr.app N22 N30q
  have f32 := ((Keep.refl T22.heap [])).trans K30 (own_all0 )
  have f33 := (f25).keep K30 (own_all0 )
  have f34 := (E22x).keep K30
  have f35 := (Fc22).keep K30 own_notin0
  have f36 := (Fv22).keep K30 own_notin0
  have f37 := (Va22).keep K30 own_notin0
  have Zf38 : n0 ≤ T30.heap.size := Nat.le_trans Zf26 (K30).1
  have ch39 : CHr Z own_EL s.vm h0 T30.vm T30.heap := CHr.trans ch31 hC30
  have pre40 : ∀ t, Steps p.tables e below (T30.setTop (mkF m 9 #[.val (.int p1), .val (.int p2), .val (.ref x22), .unset, .unset, .unset, .unset, .unset] [(.ref x30)])) t → Steps p.tables e below (s₁.setTop (entryFrame m #[(.int p1), (.int p2)] maxLocals)) t := fun t kt => pre29 t (st30.trans kt)
  have pre41 : ∀ t, Steps p.tables e below (T30.setTop (mkF m 10 #[.val (.int p1), .val (.int p2), .val (.ref x22), .val (.ref x30), .unset, .unset, .unset, .unset] [])) t → Steps p.tables e below (s₁.setTop (entryFrame m #[(.int p1), (.int p2)] maxLocals)) t := fun t kt => pre40 t (by
    refine XS.astoreN X30r.here hx rfl (hb hby at_9) rfl rfl (l' := #[.val (.int p1), .val (.int p2), .val (.ref x22), .val (.ref x30), .unset, .unset, .unset, .unset]) rfl ?_
    show Steps p.tables e below (T30.setTop (mkF m 10 #[.val (.int p1), .val (.int p2), .val (.ref x22), .val (.ref x30), .unset, .unset, .unset, .unset] [])) _
    exact kt)
  obtain ⟨T42, h42, X42, e42, E42, A42, D42, -, st42⟩ := newO X30r hx hZ30 hO30 (hw _ (List.mem_of_getElem? (i := 26) rfl)) (hw _ (List.mem_of_getElem? (i := 27) rfl)) (hw _ (List.mem_of_getElem? (i := 28) rfl)) rfl (g := (mkF m 10 #[.val (.int p1), .val (.int p2), .val (.ref x22), .val (.ref x30), .unset, .unset, .unset, .unset] [])) rfl (hb hby at_10) (by decide) (by decide)
  obtain ⟨b42, g42⟩ : ∃ z, z = T30.heap.size := ⟨_, rfl⟩
  rw [← g42] at A42 D42 st42
  have ne43 : t22 ≠ b42 := Nat.ne_of_lt (Nat.lt_of_lt_of_le (f37).lt (Nat.le_of_eq g42.symm))
  have ne44 : t30 ≠ b42 := Nat.ne_of_lt (Nat.lt_of_lt_of_le (Va30).lt (Nat.le_of_eq g42.symm))
  have ne45 : x22 ≠ b42 := Nat.ne_of_lt (Nat.lt_of_lt_of_le (f34).lt (Nat.le_of_eq g42.symm))
  have ne46 : x30 ≠ b42 := Nat.ne_of_lt (Nat.lt_of_lt_of_le (E30x).lt (Nat.le_of_eq g42.symm))
  have gz47 : n0 ≤ b42 := Nat.le_trans Zf38 (Nat.le_of_eq g42.symm)
  have f48 := ((Keep.refl T30.heap [])).ext E42
  have f49 := (f33).ext E42
  have f50 := (f34).ext E42
  have f51 := (f35).ext E42
  have f52 := (f36).ext E42
  have f53 := (f37).ext E42
  have f54 := (E30x).ext E42
  have f55 := (Fc30).ext E42
  have f56 := (Fv30).ext E42
  have f57 := (Va30).ext E42
  have Zf58 : n0 ≤ h42.size := Nat.le_trans Zf38 E42.1
  have Kf58 : T30.heap.size ≤ h42.size := Nat.le_trans (Nat.le_refl _) E42.1
  have F42_name : Fld Z h42 b42 "kakehashi/cli/Arguments$Option" "name" "Ljava/lang/String;" .null := D42 (Or.inr (hw _ (List.mem_of_getElem? (i := 39) rfl))) (ty := (.object "java/lang/String")) (by decide)
  have F42_value : Fld Z h42 b42 "kakehashi/cli/Arguments$Option" "value" "Ljava/lang/String;" .null := D42 (Or.inr (hw _ (List.mem_of_getElem? (i := 41) rfl))) (ty := (.object "java/lang/String")) (by decide)
  have pre59 : ∀ t, Steps p.tables e below (T42.setTop (mkF m 13 #[.val (.int p1), .val (.int p2), .val (.ref x22), .val (.ref x30), .unset, .unset, .unset, .unset] [(.ref b42)])) t → Steps p.tables e below (s₁.setTop (entryFrame m #[(.int p1), (.int p2)] maxLocals)) t := fun t kt => pre41 t (st42 _ kt)
  have pre60 : ∀ t, Steps p.tables e below (T42.setTop (mkF m 16 #[.val (.int p1), .val (.int p2), .val (.ref x22), .val (.ref x30), .unset, .unset, .unset, .unset] [(.ref x30), (.ref x22), (.ref b42), (.ref b42)])) t → Steps p.tables e below (s₁.setTop (entryFrame m #[(.int p1), (.int p2)] maxLocals)) t := fun t kt => pre59 t (by
    refine XS.dup X42.here hx rfl (hb hby at_13) rfl rfl ?_
    show Steps p.tables e below (T42.setTop (mkF m 14 #[.val (.int p1), .val (.int p2), .val (.ref x22), .val (.ref x30), .unset, .unset, .unset, .unset] [(.ref b42), (.ref b42)])) _
    refine XS.aloadN X42.here hx rfl (hb hby at_14) rfl rfl ?_
    show Steps p.tables e below (T42.setTop (mkF m 15 #[.val (.int p1), .val (.int p2), .val (.ref x22), .val (.ref x30), .unset, .unset, .unset, .unset] [(.ref x22), (.ref b42), (.ref b42)])) _
    refine XS.aloadN X42.here hx rfl (hb hby at_15) rfl rfl ?_
    show Steps p.tables e below (T42.setTop (mkF m 16 #[.val (.int p1), .val (.int p2), .val (.ref x22), .val (.ref x30), .unset, .unset, .unset, .unset] [(.ref x30), (.ref x22), (.ref b42), (.ref b42)])) _
    exact kt)
  obtain ⟨_, _, ⟨T61, L61, k61, n61⟩, -, X61, ⟨Lc61, hQ61, l61, y61, z61⟩, st61⟩ := X42.specialBack hx (y := (⟨"kakehashi/cli/Arguments$Option", "<init>", "(Ljava/lang/String;Ljava/lang/String;)V"⟩ : MethodName)) rfl hO30 (mvT hZ30 (hw _ (List.mem_of_getElem? (i := 29) rfl))) (mvT hZ30 (hw _ (List.mem_of_getElem? (i := 30) rfl))) (mvT hZ30 (hw _ (List.mem_of_getElem? (i := 31) rfl))) (by decide) (backOf (W := 1) (rmOp l Z a0 hw [] b42 x22 x30 _ _ h42 n0 Zf58 A42 gz47 F42_name F42_value) hZ30 (hw _ (List.mem_of_getElem? (i := 31) rfl)) (hw _ (List.mem_of_getElem? (i := 28) rfl)) (by decide) (by decide)) (g := (mkF m 16 #[.val (.int p1), .val (.int p2), .val (.ref x22), .val (.ref x30), .unset, .unset, .unset, .unset] [(.ref x30), (.ref x22), (.ref b42), (.ref b42)])) rfl (by rw [hml]; rfl) (Steps.refl _) (a := b42) (argsL := [(.ref x22), (.ref x30)]) (rest := [(.ref b42)]) (lenOf pd__28Ljava_2flang_2fString_3bLjava_2flang_2fString_3b_29V rfl) rfl (by show 2 * 0 + _ ≤ _; exact Nat.le_of_eq rfl) (hb hby at_16) (fun _ _ => ⟨rfl, e42, (by decide : 9 + 0 ≤ _), (by decide : 22 + 0 ≤ _)⟩)
  dsimp only [Pt.U, Pt.locs, Pt.cells, Pt.slots] at X61 l61 y61 z61 st61 hQ61
  subst l61 y61 z61
  obtain ⟨rfl, N61q, K61, Fn61, Fv61⟩ := hQ61
  have N61 := Fr.app N30 N61q
  have f62 := (f48).trans K61 (own_all1 (Or.inr (Nat.le_trans ((Keep.refl T30.heap [])).1 (Nat.le_of_eq g42.symm))))
  have f63 := (f49).keep K61 (own_all1 gz47)
  have f64 := (f50).keep K61
  have f65 := (f51).keep K61 (own_notin1 ne45)
  have f66 := (f52).keep K61 (own_notin1 ne45)
  have f67 := (f53).keep K61 (own_notin1 ne43)
  have f68 := (f54).keep K61
  have f69 := (f55).keep K61 (own_notin1 ne46)
  have f70 := (f56).keep K61 (own_notin1 ne46)
  have f71 := (f57).keep K61 (own_notin1 ne44)
  have f72 := (A42).keep K61
  have Zf73 : n0 ≤ T61.heap.size := Nat.le_trans Zf58 (K61).1
  have Kf73 : T30.heap.size ≤ T61.heap.size := Nat.le_trans Kf58 (K61).1
  have pre74 : ∀ t, Steps p.tables e below (T61.setTop (mkF m 19 #[.val (.int p1), .val (.int p2), .val (.ref x22), .val (.ref x30), .unset, .unset, .unset, .unset] [(.ref b42)])) t → Steps p.tables e below (s₁.setTop (entryFrame m #[(.int p1), (.int p2)] maxLocals)) t := fun t kt => pre60 t (st61.trans kt)
  have sf76 : ∀ y ∈ ([] : List Addr), Safe Z own_EL T30.vm T30.heap y := sf0
  have ch76 : CHr Z own_EL s.vm h0 T30.vm T61.heap := CHr.trans ch39 (CHr.keep f62 sf76 (ch39).1)
  obtain ⟨cq75, kq75, q75a, q75b, q75c⟩ := isOf hZ30 rfl (f72)
  obtain ⟨_, _, ⟨T75, L75, k75, n75⟩, -, X75, hS75, hgr75, ⟨Lc75, hQ75, l75, y75, z75, hC75⟩, st75⟩ := X61.virtualBackS hx (y := (⟨"kakehashi/cli/Arguments$Option", "missing", "()Lkakehashi/cli/UsageException;"⟩ : MethodName)) (z := (⟨"kakehashi/cli/Arguments$Option", "missing", "()Lkakehashi/cli/UsageException;"⟩ : MethodName)) hO30 (mvT hZ30 (hw _ (List.mem_of_getElem? (i := 42) rfl))) (mvT hZ30 (hw _ (List.mem_of_getElem? (i := 43) rfl))) (notFace_of_selects (args := #[]) (mvT hZ30 (hw _ (List.mem_of_getElem? (i := 45) rfl)))) (mvT hZ30 (hw _ (List.mem_of_getElem? (i := 45) rfl))) (mvT hZ30 (hw _ (List.mem_of_getElem? (i := 44) rfl))) (by decide) (backOfSKH (s := s) (vm0 := T30.vm) (W := 0) (rmMs l Z a0 hw [] ua ub b42 x22 x30 t22 t30 _ _ cs22 cs30 z0 T61.heap n0 Zf73 hl T1 T2 f72 Fn61 Fv61 f64 f66 f65 f67 f68 f70 f69 f71 hl22 hl30 f63 S0 hz) hZ30 (hw _ (List.mem_of_getElem? (i := 46) rfl)) (hw _ (List.mem_of_getElem? (i := 28) rfl)) (by decide) (by decide) (own_EW hw) (ch76).1 (Vm.MethodsKnown.alikeC hS30r.1.alike hTK) (Vm.FramesKnown.alikeC hS30r.1.alike hBelow)) q75a q75c (g := (mkF m 19 #[.val (.int p1), .val (.int p2), .val (.ref x22), .val (.ref x30), .unset, .unset, .unset, .unset] [(.ref b42)])) rfl (by rw [hml]; rfl) (Steps.refl _) (argsL := []) (rest := []) (lenOf pd__28_29Lkakehashi_2fcli_2fUsageException_3b rfl) rfl (by show 2 * 0 + _ ≤ _; exact Nat.le_of_eq rfl) (hb hby at_19) (fun _ _ => ⟨rfl, rfl, (by decide : 9 + 8 ≤ _), (by decide : 22 + 2827 ≤ _)⟩)
  dsimp only [Pt.U, Pt.locs, Pt.cells, Pt.slots] at X75 l75 y75 z75 st75 hQ75 hC75
  subst l75 y75 z75
  dsimp only [Pt.U] at hS75 hgr75
  obtain ⟨X75r, hS75r, hZ75, hO75⟩ := rebS hS30r Kf73 X75 hS75 hgr75 hZ30 hO30
  obtain ⟨u75, m75, t75, kt75, rfl, N75q, K75, E75x, Fm75, Em75, Fv75, Fk75, Va75⟩ := hQ75
  have N75 := Fr.app N61 N75q
  have f77 := ((Keep.refl T61.heap [])).trans K75 (own_all0 )
  have f78 := (f63).keep K75 (own_all0 )
  have f79 := (f64).keep K75
  have f80 := (f65).keep K75 own_notin0
  have f81 := (f66).keep K75 own_notin0
  have f82 := (f67).keep K75 own_notin0
  have f83 := (f68).keep K75
  have f84 := (f69).keep K75 own_notin0
  have f85 := (f70).keep K75 own_notin0
  have f86 := (f71).keep K75 own_notin0
  have f87 := (f72).keep K75
  have f88 := (Fn61).keep K75 own_notin0
  have f89 := (Fv61).keep K75 own_notin0
  have Zf90 : n0 ≤ T75.heap.size := Nat.le_trans Zf73 (K75).1
  have ch91 : CHr Z own_EL s.vm h0 T75.vm T75.heap := CHr.trans ch76 hC75
  have pre92 : ∀ t, Steps p.tables e below (T75.setTop (mkF m 22 #[.val (.int p1), .val (.int p2), .val (.ref x22), .val (.ref x30), .unset, .unset, .unset, .unset] [(.ref u75)])) t → Steps p.tables e below (s₁.setTop (entryFrame m #[(.int p1), (.int p2)] maxLocals)) t := fun t kt => pre74 t (st75.trans kt)
  have pre93 : ∀ t, Steps p.tables e below (T75.setTop (mkF m 33 #[.val (.int p1), .val (.int p2), .val (.ref x22), .val (.ref x30), .val (.ref u75), .unset, .unset, .unset] [(.ref u75)])) t → Steps p.tables e below (s₁.setTop (entryFrame m #[(.int p1), (.int p2)] maxLocals)) t := fun t kt => pre92 t (by
    refine XS.astore X75r.here hx rfl (hb hby at_22) rfl rfl (l' := #[.val (.int p1), .val (.int p2), .val (.ref x22), .val (.ref x30), .val (.ref u75), .unset, .unset, .unset]) rfl ?_
    show Steps p.tables e below (T75.setTop (mkF m 24 #[.val (.int p1), .val (.int p2), .val (.ref x22), .val (.ref x30), .val (.ref u75), .unset, .unset, .unset] [])) _
    refine XS.aload X75r.here hx rfl (hb hby at_24) rfl rfl ?_
    show Steps p.tables e below (T75.setTop (mkF m 26 #[.val (.int p1), .val (.int p2), .val (.ref x22), .val (.ref x30), .val (.ref u75), .unset, .unset, .unset] [(.ref u75)])) _
    refine XS.ifnonnullYes X75r.here hx rfl (pc0 := 26) (pc' := 31) rfl (hb hby at_26) rfl (by decide) (by decide) ?_
    show Steps p.tables e below (T75.setTop (mkF m 31 #[.val (.int p1), .val (.int p2), .val (.ref x22), .val (.ref x30), .val (.ref u75), .unset, .unset, .unset] [])) _
    refine XS.aload X75r.here hx rfl (hb hby at_31) rfl rfl ?_
    show Steps p.tables e below (T75.setTop (mkF m 33 #[.val (.int p1), .val (.int p2), .val (.ref x22), .val (.ref x30), .val (.ref u75), .unset, .unset, .unset] [(.ref u75)])) _
    exact kt)
  obtain ⟨cq94, kq94, q94a, q94b, q94c⟩ := isOf hZ75 rfl (E75x)
  obtain ⟨_, _, ⟨T94, L94, k94, n94⟩, -, X94, ⟨Lc94, hQ94, l94, y94, z94⟩, st94⟩ := X75r.virtualBackUp hx (owner := "java/lang/Throwable") (x := (⟨"kakehashi/cli/UsageException", "getMessage", "()Ljava/lang/String;"⟩ : MethodName)) (y := (⟨"java/lang/Throwable", "getMessage", "()Ljava/lang/String;"⟩ : MethodName)) hO75 (mvT hZ75 (hw _ (List.mem_of_getElem? (i := 218) rfl))) (mvT hZ75 (hw _ (List.mem_of_getElem? (i := 219) rfl))) (mvT hZ75 (hw _ (List.mem_of_getElem? (i := 220) rfl))) (by decide) (mvT hZ75 (hw _ (List.mem_of_getElem? (i := 222) rfl))) (mvT hZ75 (hw _ (List.mem_of_getElem? (i := 221) rfl))) (backOf (W := 0) (rmGM l Z a0 hw [] u75 m75 T75.heap n0 Zf90 Fm75) hZ75 (hw _ (List.mem_of_getElem? (i := 223) rfl)) (hw _ (List.mem_of_getElem? (i := 179) rfl)) (by decide) (by decide)) q94a q94c (g := (mkF m 33 #[.val (.int p1), .val (.int p2), .val (.ref x22), .val (.ref x30), .val (.ref u75), .unset, .unset, .unset] [(.ref u75)])) rfl (by rw [hml]; rfl) (Steps.refl _) (argsL := []) (rest := []) (lenOf pd__28_29Ljava_2flang_2fString_3b rfl) rfl (by show 2 * 0 + _ ≤ _; exact Nat.le_of_eq rfl) (hb hby at_33) (fun _ _ => ⟨rfl, rfl, (by decide : 17 + 0 ≤ _), (by decide : 2849 + 0 ≤ _)⟩)
  dsimp only [Pt.U, Pt.locs, Pt.cells, Pt.slots] at X94 l94 y94 z94 st94 hQ94
  subst l94 y94 z94
  obtain ⟨rfl, N94q, e94q⟩ := hQ94
  have N94 := Fr.app N75 N94q
  have pre95 : ∀ t, Steps p.tables e below (T94.setTop (mkF m 36 #[.val (.int p1), .val (.int p2), .val (.ref x22), .val (.ref x30), .val (.ref u75), .unset, .unset, .unset] [(.ref m75)])) t → Steps p.tables e below (s₁.setTop (entryFrame m #[(.int p1), (.int p2)] maxLocals)) t := fun t kt => pre93 t (st94.trans kt)
  have pre96 : ∀ t, Steps p.tables e below (T94.setTop (mkF m 46 #[.val (.int p1), .val (.int p2), .val (.ref x22), .val (.ref x30), .val (.ref u75), .val (.ref m75), .unset, .unset] [(.ref x22)])) t → Steps p.tables e below (s₁.setTop (entryFrame m #[(.int p1), (.int p2)] maxLocals)) t := fun t kt => pre95 t (by
    refine XS.astore X94.here hx rfl (hb hby at_36) rfl rfl (l' := #[.val (.int p1), .val (.int p2), .val (.ref x22), .val (.ref x30), .val (.ref u75), .val (.ref m75), .unset, .unset]) rfl ?_
    show Steps p.tables e below (T94.setTop (mkF m 38 #[.val (.int p1), .val (.int p2), .val (.ref x22), .val (.ref x30), .val (.ref u75), .val (.ref m75), .unset, .unset] [])) _
    refine XS.aload X94.here hx rfl (hb hby at_38) rfl rfl ?_
    show Steps p.tables e below (T94.setTop (mkF m 40 #[.val (.int p1), .val (.int p2), .val (.ref x22), .val (.ref x30), .val (.ref u75), .val (.ref m75), .unset, .unset] [(.ref m75)])) _
    refine XS.ifnonnullYes X94.here hx rfl (pc0 := 40) (pc' := 45) rfl (hb hby at_40) rfl (by decide) (by decide) ?_
    show Steps p.tables e below (T94.setTop (mkF m 45 #[.val (.int p1), .val (.int p2), .val (.ref x22), .val (.ref x30), .val (.ref u75), .val (.ref m75), .unset, .unset] [])) _
    refine XS.aloadN X94.here hx rfl (hb hby at_45) rfl rfl ?_
    show Steps p.tables e below (T94.setTop (mkF m 46 #[.val (.int p1), .val (.int p2), .val (.ref x22), .val (.ref x30), .val (.ref u75), .val (.ref m75), .unset, .unset] [(.ref x22)])) _
    exact kt)
  obtain ⟨cq97, kq97, q97a, q97b, q97c⟩ := isOf hZ75 e94q (f79)
  obtain ⟨_, _, ⟨T97, L97, k97, n97⟩, -, X97, ⟨Lc97, hQ97, l97, y97, z97⟩, st97⟩ := X94.virtualBack hx (y := (⟨"java/lang/String", "length", "()I"⟩ : MethodName)) (z := (⟨"java/lang/String", "length", "()I"⟩ : MethodName)) hO75 (mvT hZ75 (hw _ (List.mem_of_getElem? (i := 224) rfl))) (mvT hZ75 (hw _ (List.mem_of_getElem? (i := 79) rfl))) (notFace_of_selects (args := #[]) (mvT hZ75 (hw _ (List.mem_of_getElem? (i := 81) rfl)))) (mvT hZ75 (hw _ (List.mem_of_getElem? (i := 81) rfl))) (mvT hZ75 (hw _ (List.mem_of_getElem? (i := 80) rfl))) (by decide) (backOf (W := 0) (rmLs l Z a0 hw [] x22 t22 _ _ z0 _ T75.heap n0 Zf90 f79 f81 f80 f82 f78 S0 hz) hZ75 (hw _ (List.mem_of_getElem? (i := 82) rfl)) (hw _ (List.mem_of_getElem? (i := 6) rfl)) (by decide) (by decide)) q97a q97c (g := (mkF m 46 #[.val (.int p1), .val (.int p2), .val (.ref x22), .val (.ref x30), .val (.ref u75), .val (.ref m75), .unset, .unset] [(.ref x22)])) rfl (by rw [hml]; rfl) (Steps.refl _) (argsL := []) (rest := []) (lenOf pd__28_29I rfl) rfl (by show 2 * 0 + _ ≤ _; exact Nat.le_of_eq rfl) (hb hby at_46) (fun _ _ => ⟨rfl, e94q, (by decide : 17 + 0 ≤ _), (by decide : 2849 + 0 ≤ _)⟩)
  dsimp only [Pt.U, Pt.locs, Pt.cells, Pt.slots] at X97 l97 y97 z97 st97 hQ97
  subst l97 y97 z97
  obtain ⟨rfl, N97q, e97q⟩ := hQ97
  have N97 := Fr.app N94 N97q
  have pre98 : ∀ t, Steps p.tables e below (T97.setTop (mkF m 49 #[.val (.int p1), .val (.int p2), .val (.ref x22), .val (.ref x30), .val (.ref u75), .val (.ref m75), .unset, .unset] [(.int (Int32.ofNat cs22.length))])) t → Steps p.tables e below (s₁.setTop (entryFrame m #[(.int p1), (.int p2)] maxLocals)) t := fun t kt => pre96 t (st97.trans kt)
  have pre99 : ∀ t, Steps p.tables e below (T97.setTop (mkF m 52 #[.val (.int p1), .val (.int p2), .val (.ref x22), .val (.ref x30), .val (.ref u75), .val (.ref m75), .val (.int (Int32.ofNat cs22.length)), .unset] [(.ref x30)])) t → Steps p.tables e below (s₁.setTop (entryFrame m #[(.int p1), (.int p2)] maxLocals)) t := fun t kt => pre98 t (by
    refine XS.istore X97.here hx rfl (hb hby at_49) rfl (l' := #[.val (.int p1), .val (.int p2), .val (.ref x22), .val (.ref x30), .val (.ref u75), .val (.ref m75), .val (.int (Int32.ofNat cs22.length)), .unset]) rfl ?_
    show Steps p.tables e below (T97.setTop (mkF m 51 #[.val (.int p1), .val (.int p2), .val (.ref x22), .val (.ref x30), .val (.ref u75), .val (.ref m75), .val (.int (Int32.ofNat cs22.length)), .unset] [])) _
    refine XS.aloadN X97.here hx rfl (hb hby at_51) rfl rfl ?_
    show Steps p.tables e below (T97.setTop (mkF m 52 #[.val (.int p1), .val (.int p2), .val (.ref x22), .val (.ref x30), .val (.ref u75), .val (.ref m75), .val (.int (Int32.ofNat cs22.length)), .unset] [(.ref x30)])) _
    exact kt)
  obtain ⟨cq100, kq100, q100a, q100b, q100c⟩ := isOf hZ75 e97q (f83)
  obtain ⟨_, _, ⟨T100, L100, k100, n100⟩, -, X100, ⟨Lc100, hQ100, l100, y100, z100⟩, st100⟩ := X97.virtualBack hx (y := (⟨"java/lang/String", "length", "()I"⟩ : MethodName)) (z := (⟨"java/lang/String", "length", "()I"⟩ : MethodName)) hO75 (mvT hZ75 (hw _ (List.mem_of_getElem? (i := 224) rfl))) (mvT hZ75 (hw _ (List.mem_of_getElem? (i := 79) rfl))) (notFace_of_selects (args := #[]) (mvT hZ75 (hw _ (List.mem_of_getElem? (i := 81) rfl)))) (mvT hZ75 (hw _ (List.mem_of_getElem? (i := 81) rfl))) (mvT hZ75 (hw _ (List.mem_of_getElem? (i := 80) rfl))) (by decide) (backOf (W := 0) (rmLs l Z a0 hw [] x30 t30 _ _ z0 _ T75.heap n0 Zf90 f83 f85 f84 f86 f78 S0 hz) hZ75 (hw _ (List.mem_of_getElem? (i := 82) rfl)) (hw _ (List.mem_of_getElem? (i := 6) rfl)) (by decide) (by decide)) q100a q100c (g := (mkF m 52 #[.val (.int p1), .val (.int p2), .val (.ref x22), .val (.ref x30), .val (.ref u75), .val (.ref m75), .val (.int (Int32.ofNat cs22.length)), .unset] [(.ref x30)])) rfl (by rw [hml]; rfl) (Steps.refl _) (argsL := []) (rest := []) (lenOf pd__28_29I rfl) rfl (by show 2 * 0 + _ ≤ _; exact Nat.le_of_eq rfl) (hb hby at_52) (fun _ _ => ⟨rfl, e97q, (by decide : 17 + 0 ≤ _), (by decide : 2849 + 0 ≤ _)⟩)
  dsimp only [Pt.U, Pt.locs, Pt.cells, Pt.slots] at X100 l100 y100 z100 st100 hQ100
  subst l100 y100 z100
  obtain ⟨rfl, N100q, e100q⟩ := hQ100
  have N100 := Fr.app N97 N100q
  have pre101 : ∀ t, Steps p.tables e below (T100.setTop (mkF m 55 #[.val (.int p1), .val (.int p2), .val (.ref x22), .val (.ref x30), .val (.ref u75), .val (.ref m75), .val (.int (Int32.ofNat cs22.length)), .unset] [(.int (Int32.ofNat cs30.length))])) t → Steps p.tables e below (s₁.setTop (entryFrame m #[(.int p1), (.int p2)] maxLocals)) t := fun t kt => pre99 t (st100.trans kt)
  have pre102 : ∀ t, Steps p.tables e below (T100.setTop (mkF m 59 #[.val (.int p1), .val (.int p2), .val (.ref x22), .val (.ref x30), .val (.ref u75), .val (.ref m75), .val (.int (Int32.ofNat cs22.length)), .val (.int (Int32.ofNat cs30.length))] [(.ref m75)])) t → Steps p.tables e below (s₁.setTop (entryFrame m #[(.int p1), (.int p2)] maxLocals)) t := fun t kt => pre101 t (by
    refine XS.istore X100.here hx rfl (hb hby at_55) rfl (l' := #[.val (.int p1), .val (.int p2), .val (.ref x22), .val (.ref x30), .val (.ref u75), .val (.ref m75), .val (.int (Int32.ofNat cs22.length)), .val (.int (Int32.ofNat cs30.length))]) rfl ?_
    show Steps p.tables e below (T100.setTop (mkF m 57 #[.val (.int p1), .val (.int p2), .val (.ref x22), .val (.ref x30), .val (.ref u75), .val (.ref m75), .val (.int (Int32.ofNat cs22.length)), .val (.int (Int32.ofNat cs30.length))] [])) _
    refine XS.aload X100.here hx rfl (hb hby at_57) rfl rfl ?_
    show Steps p.tables e below (T100.setTop (mkF m 59 #[.val (.int p1), .val (.int p2), .val (.ref x22), .val (.ref x30), .val (.ref u75), .val (.ref m75), .val (.int (Int32.ofNat cs22.length)), .val (.int (Int32.ofNat cs30.length))] [(.ref m75)])) _
    exact kt)
  obtain ⟨cq103, kq103, q103a, q103b, q103c⟩ := isOf hZ75 e100q (Em75)
  obtain ⟨_, _, ⟨T103, L103, k103, n103⟩, -, X103, ⟨Lc103, hQ103, l103, y103, z103⟩, st103⟩ := X100.virtualBack hx (y := (⟨"java/lang/String", "length", "()I"⟩ : MethodName)) (z := (⟨"java/lang/String", "length", "()I"⟩ : MethodName)) hO75 (mvT hZ75 (hw _ (List.mem_of_getElem? (i := 224) rfl))) (mvT hZ75 (hw _ (List.mem_of_getElem? (i := 79) rfl))) (notFace_of_selects (args := #[]) (mvT hZ75 (hw _ (List.mem_of_getElem? (i := 81) rfl)))) (mvT hZ75 (hw _ (List.mem_of_getElem? (i := 81) rfl))) (mvT hZ75 (hw _ (List.mem_of_getElem? (i := 80) rfl))) (by decide) (backOf (W := 0) (rmLs l Z a0 hw [] m75 t75 _ _ z0 _ T75.heap n0 Zf90 Em75 Fv75 Fk75 Va75 f78 S0 hz) hZ75 (hw _ (List.mem_of_getElem? (i := 82) rfl)) (hw _ (List.mem_of_getElem? (i := 6) rfl)) (by decide) (by decide)) q103a q103c (g := (mkF m 59 #[.val (.int p1), .val (.int p2), .val (.ref x22), .val (.ref x30), .val (.ref u75), .val (.ref m75), .val (.int (Int32.ofNat cs22.length)), .val (.int (Int32.ofNat cs30.length))] [(.ref m75)])) rfl (by rw [hml]; rfl) (Steps.refl _) (argsL := []) (rest := []) (lenOf pd__28_29I rfl) rfl (by show 2 * 0 + _ ≤ _; exact Nat.le_of_eq rfl) (hb hby at_59) (fun _ _ => ⟨rfl, e100q, (by decide : 17 + 0 ≤ _), (by decide : 2849 + 0 ≤ _)⟩)
  dsimp only [Pt.U, Pt.locs, Pt.cells, Pt.slots] at X103 l103 y103 z103 st103 hQ103
  subst l103 y103 z103
  obtain ⟨rfl, N103q, e103q⟩ := hQ103
  have N103 := Fr.app N100 N103q
  have pre104 : ∀ t, Steps p.tables e below (T103.setTop (mkF m 62 #[.val (.int p1), .val (.int p2), .val (.ref x22), .val (.ref x30), .val (.ref u75), .val (.ref m75), .val (.int (Int32.ofNat cs22.length)), .val (.int (Int32.ofNat cs30.length))] [(.int (Int32.ofNat (own_M cs22 cs30).length))])) t → Steps p.tables e below (s₁.setTop (entryFrame m #[(.int p1), (.int p2)] maxLocals)) t := fun t kt => pre102 t (st103.trans kt)
  have pre105 : ∀ t, Steps p.tables e below (T103.setTop (mkF m 80 #[.val (.int p1), .val (.int p2), .val (.ref x22), .val (.ref x30), .val (.ref u75), .val (.ref m75), .val (.int (Int32.ofNat cs22.length)), .val (.int (Int32.ofNat cs30.length))] [(.int (0 : Int32)), (.ref x30), (.ref x22), (.ref m75)])) t → Steps p.tables e below (s₁.setTop (entryFrame m #[(.int p1), (.int p2)] maxLocals)) t := fun t kt => pre104 t (by
    refine XS.iload X103.here hx rfl (hb hby at_62) rfl ?_
    show Steps p.tables e below (T103.setTop (mkF m 64 #[.val (.int p1), .val (.int p2), .val (.ref x22), .val (.ref x30), .val (.ref u75), .val (.ref m75), .val (.int (Int32.ofNat cs22.length)), .val (.int (Int32.ofNat cs30.length))] [(.int (Int32.ofNat cs22.length)), (.int (Int32.ofNat (own_M cs22 cs30).length))])) _
    refine XS.bipush X103.here hx rfl (hb hby at_64) ?_
    show Steps p.tables e below (T103.setTop (mkF m 66 #[.val (.int p1), .val (.int p2), .val (.ref x22), .val (.ref x30), .val (.ref u75), .val (.ref m75), .val (.int (Int32.ofNat cs22.length)), .val (.int (Int32.ofNat cs30.length))] [(.int (7 : Int32)), (.int (Int32.ofNat cs22.length)), (.int (Int32.ofNat (own_M cs22 cs30).length))])) _
    refine XS.iadd X103.here hx rfl (hb hby at_66) rfl ?_
    show Steps p.tables e below (T103.setTop (mkF m 67 #[.val (.int p1), .val (.int p2), .val (.ref x22), .val (.ref x30), .val (.ref u75), .val (.ref m75), .val (.int (Int32.ofNat cs22.length)), .val (.int (Int32.ofNat cs30.length))] [(.int ((Int32.ofNat cs22.length) + (7 : Int32))), (.int (Int32.ofNat (own_M cs22 cs30).length))])) _
    refine XS.iload X103.here hx rfl (hb hby at_67) rfl ?_
    show Steps p.tables e below (T103.setTop (mkF m 69 #[.val (.int p1), .val (.int p2), .val (.ref x22), .val (.ref x30), .val (.ref u75), .val (.ref m75), .val (.int (Int32.ofNat cs22.length)), .val (.int (Int32.ofNat cs30.length))] [(.int (Int32.ofNat cs30.length)), (.int ((Int32.ofNat cs22.length) + (7 : Int32))), (.int (Int32.ofNat (own_M cs22 cs30).length))])) _
    refine XS.iadd X103.here hx rfl (hb hby at_69) rfl ?_
    show Steps p.tables e below (T103.setTop (mkF m 70 #[.val (.int p1), .val (.int p2), .val (.ref x22), .val (.ref x30), .val (.ref u75), .val (.ref m75), .val (.int (Int32.ofNat cs22.length)), .val (.int (Int32.ofNat cs30.length))] [(.int (((Int32.ofNat cs22.length) + (7 : Int32)) + (Int32.ofNat cs30.length))), (.int (Int32.ofNat (own_M cs22 cs30).length))])) _
    refine XS.icmpYes X103.here hx rfl (pc0 := 70) (pc' := 75) rfl (hb hby at_70) rfl (teq (own_tot cs22 cs30 hl22 hl30 : (Int32.ofNat (own_M cs22 cs30).length) = (((Int32.ofNat cs22.length) + (7 : Int32)) + (Int32.ofNat cs30.length)))).1 (by decide) (by decide) ?_
    show Steps p.tables e below (T103.setTop (mkF m 75 #[.val (.int p1), .val (.int p2), .val (.ref x22), .val (.ref x30), .val (.ref u75), .val (.ref m75), .val (.int (Int32.ofNat cs22.length)), .val (.int (Int32.ofNat cs30.length))] [])) _
    refine XS.aload X103.here hx rfl (hb hby at_75) rfl rfl ?_
    show Steps p.tables e below (T103.setTop (mkF m 77 #[.val (.int p1), .val (.int p2), .val (.ref x22), .val (.ref x30), .val (.ref u75), .val (.ref m75), .val (.int (Int32.ofNat cs22.length)), .val (.int (Int32.ofNat cs30.length))] [(.ref m75)])) _
    refine XS.aloadN X103.here hx rfl (hb hby at_77) rfl rfl ?_
    show Steps p.tables e below (T103.setTop (mkF m 78 #[.val (.int p1), .val (.int p2), .val (.ref x22), .val (.ref x30), .val (.ref u75), .val (.ref m75), .val (.int (Int32.ofNat cs22.length)), .val (.int (Int32.ofNat cs30.length))] [(.ref x22), (.ref m75)])) _
    refine XS.aloadN X103.here hx rfl (hb hby at_78) rfl rfl ?_
    show Steps p.tables e below (T103.setTop (mkF m 79 #[.val (.int p1), .val (.int p2), .val (.ref x22), .val (.ref x30), .val (.ref u75), .val (.ref m75), .val (.int (Int32.ofNat cs22.length)), .val (.int (Int32.ofNat cs30.length))] [(.ref x30), (.ref x22), (.ref m75)])) _
    refine XS.iconst X103.here hx rfl (hb hby at_79) ?_
    show Steps p.tables e below (T103.setTop (mkF m 80 #[.val (.int p1), .val (.int p2), .val (.ref x22), .val (.ref x30), .val (.ref u75), .val (.ref m75), .val (.int (Int32.ofNat cs22.length)), .val (.int (Int32.ofNat cs30.length))] [(.int (0 : Int32)), (.ref x30), (.ref x22), (.ref m75)])) _
    exact kt)
  have sf107 : ∀ y ∈ ([] : List Addr), Safe Z own_EL T75.vm T75.heap y := sf0
  have ch107 : CHr Z own_EL s.vm h0 T75.vm T75.heap := CHr.trans ch91 (CHr.keep (Keep.refl T75.heap []) sf107 (ch91).1)
  obtain ⟨_, _, ⟨T106, L106, k106, n106⟩, -, X106, hS106, hgr106, ⟨Lc106, hQ106, l106, y106, z106, hC106⟩, st106⟩ := callSS X103 hx (y := (⟨"kakehashi/cli/OptionMissingPinLaw", "ok", "(Ljava/lang/String;Ljava/lang/String;Ljava/lang/String;I)Z"⟩ : MethodName)) hO75 (mvT hZ75 (hw _ (List.mem_of_getElem? (i := 225) rfl))) (mvT hZ75 (hw _ (List.mem_of_getElem? (i := 226) rfl))) (mvT hZ75 (hw _ (List.mem_of_getElem? (i := 2) rfl))) (mvT hZ75 (hw _ (List.mem_of_getElem? (i := 227) rfl))) (by decide) (backOfSH (s := s) (vm0 := T75.vm) (W := 0) (rmOk l Z a0 hw [] m75 x22 x30 t75 t22 t30 _ _ _ cs22 cs30 0 (0 : Int32) z0 fm T75.heap n0 Zf90 Em75 Fv75 Fk75 Va75 f79 f81 f80 f82 f83 f85 f84 f86 hl22 hl30 lat22 lat30 rfl (by decide) f78 S0 hz S1 hfm) hZ75 (hw _ (List.mem_of_getElem? (i := 227) rfl)) (hw _ (List.mem_of_getElem? (i := 2) rfl)) (by decide) (by decide) (own_EW hw) (ch107).1) (g := (mkF m 80 #[.val (.int p1), .val (.int p2), .val (.ref x22), .val (.ref x30), .val (.ref u75), .val (.ref m75), .val (.int (Int32.ofNat cs22.length)), .val (.int (Int32.ofNat cs30.length))] [(.int (0 : Int32)), (.ref x30), (.ref x22), (.ref m75)])) rfl (by rw [hml]; rfl) (argsL := [(.ref m75), (.ref x22), (.ref x30), (.int (0 : Int32))]) (rest := []) (lenOf pd__28Ljava_2flang_2fString_3bLjava_2flang_2fString_3bLjava_2flang_2fString_3bI_29Z rfl) rfl (by show 2 * 0 + _ ≤ _; exact Nat.le_of_eq rfl) (hb hby at_80) (fun _ _ => ⟨rfl, e103q, (by decide : 17 + 2 ≤ _), (by decide : 2849 + 32 ≤ _)⟩)
  dsimp only [Pt.U, Pt.locs, Pt.cells, Pt.slots] at X106 l106 y106 z106 st106 hQ106 hC106
  subst l106 y106 z106
  dsimp only [Pt.U] at hS106 hgr106
  obtain ⟨X106r, hS106r, hZ106, hO106⟩ := rebS hS75r (by rw [e103q]; exact (Nat.le_refl _)) X106 hS106 hgr106 hZ75 hO75
  obtain ⟨rfl, N106q, K106⟩ := hQ106
  have N106 := Fr.app N103 N106q
  have f108 := ((Keep.refl T75.heap [])).trans K106 (own_all0 )
  have f109 := (f78).keep K106 (own_all0 )
  have f110 := (f79).keep K106
  have f111 := (f80).keep K106 own_notin0
  have f112 := (f81).keep K106 own_notin0
  have f113 := (f82).keep K106 own_notin0
  have f114 := (f83).keep K106
  have f115 := (f84).keep K106 own_notin0
  have f116 := (f85).keep K106 own_notin0
  have f117 := (f86).keep K106 own_notin0
  have f118 := (f87).keep K106
  have f119 := (f88).keep K106 own_notin0
  have f120 := (f89).keep K106 own_notin0
  have f121 := (E75x).keep K106
  have f122 := (Fm75).keep K106 own_notin0
  have f123 := (Em75).keep K106
  have f124 := (Fv75).keep K106 own_notin0
  have f125 := (Fk75).keep K106 own_notin0
  have f126 := (Va75).keep K106 own_notin0
  have Zf127 : n0 ≤ T106.heap.size := Nat.le_trans Zf90 (K106).1
  have ch128 : CHr Z own_EL s.vm h0 T106.vm T106.heap := CHr.trans ch107 hC106
  have pre129 : ∀ t, Steps p.tables e below (T106.setTop (mkF m 83 #[.val (.int p1), .val (.int p2), .val (.ref x22), .val (.ref x30), .val (.ref u75), .val (.ref m75), .val (.int (Int32.ofNat cs22.length)), .val (.int (Int32.ofNat cs30.length))] [(.int (1 : Int32))])) t → Steps p.tables e below (s₁.setTop (entryFrame m #[(.int p1), (.int p2)] maxLocals)) t := fun t kt => pre105 t (st106.trans kt)
  have pre130 : ∀ t, Steps p.tables e below (T106.setTop (mkF m 91 #[.val (.int p1), .val (.int p2), .val (.ref x22), .val (.ref x30), .val (.ref u75), .val (.ref m75), .val (.int (Int32.ofNat cs22.length)), .val (.int (Int32.ofNat cs30.length))] [(.int (1 : Int32)), (.ref x30), (.ref x22), (.ref m75)])) t → Steps p.tables e below (s₁.setTop (entryFrame m #[(.int p1), (.int p2)] maxLocals)) t := fun t kt => pre129 t (by
    refine XS.ifNo X106r.here hx rfl (hb hby at_83) rfl ((if0 _ _).trans (feq (by decide : ¬ ((1 : Int32) = (0 : Int32)))).1) ?_
    show Steps p.tables e below (T106.setTop (mkF m 86 #[.val (.int p1), .val (.int p2), .val (.ref x22), .val (.ref x30), .val (.ref u75), .val (.ref m75), .val (.int (Int32.ofNat cs22.length)), .val (.int (Int32.ofNat cs30.length))] [])) _
    refine XS.aload X106r.here hx rfl (hb hby at_86) rfl rfl ?_
    show Steps p.tables e below (T106.setTop (mkF m 88 #[.val (.int p1), .val (.int p2), .val (.ref x22), .val (.ref x30), .val (.ref u75), .val (.ref m75), .val (.int (Int32.ofNat cs22.length)), .val (.int (Int32.ofNat cs30.length))] [(.ref m75)])) _
    refine XS.aloadN X106r.here hx rfl (hb hby at_88) rfl rfl ?_
    show Steps p.tables e below (T106.setTop (mkF m 89 #[.val (.int p1), .val (.int p2), .val (.ref x22), .val (.ref x30), .val (.ref u75), .val (.ref m75), .val (.int (Int32.ofNat cs22.length)), .val (.int (Int32.ofNat cs30.length))] [(.ref x22), (.ref m75)])) _
    refine XS.aloadN X106r.here hx rfl (hb hby at_89) rfl rfl ?_
    show Steps p.tables e below (T106.setTop (mkF m 90 #[.val (.int p1), .val (.int p2), .val (.ref x22), .val (.ref x30), .val (.ref u75), .val (.ref m75), .val (.int (Int32.ofNat cs22.length)), .val (.int (Int32.ofNat cs30.length))] [(.ref x30), (.ref x22), (.ref m75)])) _
    refine XS.iconst X106r.here hx rfl (hb hby at_90) ?_
    show Steps p.tables e below (T106.setTop (mkF m 91 #[.val (.int p1), .val (.int p2), .val (.ref x22), .val (.ref x30), .val (.ref u75), .val (.ref m75), .val (.int (Int32.ofNat cs22.length)), .val (.int (Int32.ofNat cs30.length))] [(.int (1 : Int32)), (.ref x30), (.ref x22), (.ref m75)])) _
    exact kt)
  have sf132 : ∀ y ∈ ([] : List Addr), Safe Z own_EL T106.vm T106.heap y := sf0
  have ch132 : CHr Z own_EL s.vm h0 T106.vm T106.heap := CHr.trans ch128 (CHr.keep (Keep.refl T106.heap []) sf132 (ch128).1)
  obtain ⟨_, _, ⟨T131, L131, k131, n131⟩, -, X131, hS131, hgr131, ⟨Lc131, hQ131, l131, y131, z131, hC131⟩, st131⟩ := callSS X106r hx (y := (⟨"kakehashi/cli/OptionMissingPinLaw", "ok", "(Ljava/lang/String;Ljava/lang/String;Ljava/lang/String;I)Z"⟩ : MethodName)) hO106 (mvT hZ106 (hw _ (List.mem_of_getElem? (i := 225) rfl))) (mvT hZ106 (hw _ (List.mem_of_getElem? (i := 226) rfl))) (mvT hZ106 (hw _ (List.mem_of_getElem? (i := 2) rfl))) (mvT hZ106 (hw _ (List.mem_of_getElem? (i := 227) rfl))) (by decide) (backOfSH (s := s) (vm0 := T106.vm) (W := 0) (rmOk l Z a0 hw [] m75 x22 x30 t75 t22 t30 _ _ _ cs22 cs30 1 (1 : Int32) z0 fm T106.heap n0 Zf127 f123 f124 f125 f126 f110 f112 f111 f113 f114 f116 f115 f117 hl22 hl30 lat22 lat30 rfl (by decide) f109 S0 hz S1 hfm) hZ106 (hw _ (List.mem_of_getElem? (i := 227) rfl)) (hw _ (List.mem_of_getElem? (i := 2) rfl)) (by decide) (by decide) (own_EW hw) (ch132).1) (g := (mkF m 91 #[.val (.int p1), .val (.int p2), .val (.ref x22), .val (.ref x30), .val (.ref u75), .val (.ref m75), .val (.int (Int32.ofNat cs22.length)), .val (.int (Int32.ofNat cs30.length))] [(.int (1 : Int32)), (.ref x30), (.ref x22), (.ref m75)])) rfl (by rw [hml]; rfl) (argsL := [(.ref m75), (.ref x22), (.ref x30), (.int (1 : Int32))]) (rest := []) (lenOf pd__28Ljava_2flang_2fString_3bLjava_2flang_2fString_3bLjava_2flang_2fString_3bI_29Z rfl) rfl (by show 2 * 0 + _ ≤ _; exact Nat.le_of_eq rfl) (hb hby at_91) (fun _ _ => ⟨rfl, rfl, (by decide : 19 + 2 ≤ _), (by decide : 2881 + 32 ≤ _)⟩)
  dsimp only [Pt.U, Pt.locs, Pt.cells, Pt.slots] at X131 l131 y131 z131 st131 hQ131 hC131
  subst l131 y131 z131
  dsimp only [Pt.U] at hS131 hgr131
  obtain ⟨X131r, hS131r, hZ131, hO131⟩ := rebS hS106r (Nat.le_refl _) X131 hS131 hgr131 hZ106 hO106
  obtain ⟨rfl, N131q, K131⟩ := hQ131
  have N131 := Fr.app N106 N131q
  have f133 := ((Keep.refl T106.heap [])).trans K131 (own_all0 )
  have f134 := (f109).keep K131 (own_all0 )
  have f135 := (f110).keep K131
  have f136 := (f111).keep K131 own_notin0
  have f137 := (f112).keep K131 own_notin0
  have f138 := (f113).keep K131 own_notin0
  have f139 := (f114).keep K131
  have f140 := (f115).keep K131 own_notin0
  have f141 := (f116).keep K131 own_notin0
  have f142 := (f117).keep K131 own_notin0
  have f143 := (f118).keep K131
  have f144 := (f119).keep K131 own_notin0
  have f145 := (f120).keep K131 own_notin0
  have f146 := (f121).keep K131
  have f147 := (f122).keep K131 own_notin0
  have f148 := (f123).keep K131
  have f149 := (f124).keep K131 own_notin0
  have f150 := (f125).keep K131 own_notin0
  have f151 := (f126).keep K131 own_notin0
  have Zf152 : n0 ≤ T131.heap.size := Nat.le_trans Zf127 (K131).1
  have ch153 : CHr Z own_EL s.vm h0 T131.vm T131.heap := CHr.trans ch132 hC131
  have pre154 : ∀ t, Steps p.tables e below (T131.setTop (mkF m 94 #[.val (.int p1), .val (.int p2), .val (.ref x22), .val (.ref x30), .val (.ref u75), .val (.ref m75), .val (.int (Int32.ofNat cs22.length)), .val (.int (Int32.ofNat cs30.length))] [(.int (1 : Int32))])) t → Steps p.tables e below (s₁.setTop (entryFrame m #[(.int p1), (.int p2)] maxLocals)) t := fun t kt => pre130 t (st131.trans kt)
  have pre155 : ∀ t, Steps p.tables e below (T131.setTop (mkF m 102 #[.val (.int p1), .val (.int p2), .val (.ref x22), .val (.ref x30), .val (.ref u75), .val (.ref m75), .val (.int (Int32.ofNat cs22.length)), .val (.int (Int32.ofNat cs30.length))] [(.int (2 : Int32)), (.ref x30), (.ref x22), (.ref m75)])) t → Steps p.tables e below (s₁.setTop (entryFrame m #[(.int p1), (.int p2)] maxLocals)) t := fun t kt => pre154 t (by
    refine XS.ifNo X131r.here hx rfl (hb hby at_94) rfl ((if0 _ _).trans (feq (by decide : ¬ ((1 : Int32) = (0 : Int32)))).1) ?_
    show Steps p.tables e below (T131.setTop (mkF m 97 #[.val (.int p1), .val (.int p2), .val (.ref x22), .val (.ref x30), .val (.ref u75), .val (.ref m75), .val (.int (Int32.ofNat cs22.length)), .val (.int (Int32.ofNat cs30.length))] [])) _
    refine XS.aload X131r.here hx rfl (hb hby at_97) rfl rfl ?_
    show Steps p.tables e below (T131.setTop (mkF m 99 #[.val (.int p1), .val (.int p2), .val (.ref x22), .val (.ref x30), .val (.ref u75), .val (.ref m75), .val (.int (Int32.ofNat cs22.length)), .val (.int (Int32.ofNat cs30.length))] [(.ref m75)])) _
    refine XS.aloadN X131r.here hx rfl (hb hby at_99) rfl rfl ?_
    show Steps p.tables e below (T131.setTop (mkF m 100 #[.val (.int p1), .val (.int p2), .val (.ref x22), .val (.ref x30), .val (.ref u75), .val (.ref m75), .val (.int (Int32.ofNat cs22.length)), .val (.int (Int32.ofNat cs30.length))] [(.ref x22), (.ref m75)])) _
    refine XS.aloadN X131r.here hx rfl (hb hby at_100) rfl rfl ?_
    show Steps p.tables e below (T131.setTop (mkF m 101 #[.val (.int p1), .val (.int p2), .val (.ref x22), .val (.ref x30), .val (.ref u75), .val (.ref m75), .val (.int (Int32.ofNat cs22.length)), .val (.int (Int32.ofNat cs30.length))] [(.ref x30), (.ref x22), (.ref m75)])) _
    refine XS.iconst X131r.here hx rfl (hb hby at_101) ?_
    show Steps p.tables e below (T131.setTop (mkF m 102 #[.val (.int p1), .val (.int p2), .val (.ref x22), .val (.ref x30), .val (.ref u75), .val (.ref m75), .val (.int (Int32.ofNat cs22.length)), .val (.int (Int32.ofNat cs30.length))] [(.int (2 : Int32)), (.ref x30), (.ref x22), (.ref m75)])) _
    exact kt)
  have sf157 : ∀ y ∈ ([] : List Addr), Safe Z own_EL T131.vm T131.heap y := sf0
  have ch157 : CHr Z own_EL s.vm h0 T131.vm T131.heap := CHr.trans ch153 (CHr.keep (Keep.refl T131.heap []) sf157 (ch153).1)
  obtain ⟨_, _, ⟨T156, L156, k156, n156⟩, -, X156, hS156, hgr156, ⟨Lc156, hQ156, l156, y156, z156, hC156⟩, st156⟩ := callSS X131r hx (y := (⟨"kakehashi/cli/OptionMissingPinLaw", "ok", "(Ljava/lang/String;Ljava/lang/String;Ljava/lang/String;I)Z"⟩ : MethodName)) hO131 (mvT hZ131 (hw _ (List.mem_of_getElem? (i := 225) rfl))) (mvT hZ131 (hw _ (List.mem_of_getElem? (i := 226) rfl))) (mvT hZ131 (hw _ (List.mem_of_getElem? (i := 2) rfl))) (mvT hZ131 (hw _ (List.mem_of_getElem? (i := 227) rfl))) (by decide) (backOfSH (s := s) (vm0 := T131.vm) (W := 0) (rmOk l Z a0 hw [] m75 x22 x30 t75 t22 t30 _ _ _ cs22 cs30 2 (2 : Int32) z0 fm T131.heap n0 Zf152 f148 f149 f150 f151 f135 f137 f136 f138 f139 f141 f140 f142 hl22 hl30 lat22 lat30 rfl (by decide) f134 S0 hz S1 hfm) hZ131 (hw _ (List.mem_of_getElem? (i := 227) rfl)) (hw _ (List.mem_of_getElem? (i := 2) rfl)) (by decide) (by decide) (own_EW hw) (ch157).1) (g := (mkF m 102 #[.val (.int p1), .val (.int p2), .val (.ref x22), .val (.ref x30), .val (.ref u75), .val (.ref m75), .val (.int (Int32.ofNat cs22.length)), .val (.int (Int32.ofNat cs30.length))] [(.int (2 : Int32)), (.ref x30), (.ref x22), (.ref m75)])) rfl (by rw [hml]; rfl) (argsL := [(.ref m75), (.ref x22), (.ref x30), (.int (2 : Int32))]) (rest := []) (lenOf pd__28Ljava_2flang_2fString_3bLjava_2flang_2fString_3bLjava_2flang_2fString_3bI_29Z rfl) rfl (by show 2 * 0 + _ ≤ _; exact Nat.le_of_eq rfl) (hb hby at_102) (fun _ _ => ⟨rfl, rfl, (by decide : 21 + 2 ≤ _), (by decide : 2913 + 32 ≤ _)⟩)
  dsimp only [Pt.U, Pt.locs, Pt.cells, Pt.slots] at X156 l156 y156 z156 st156 hQ156 hC156
  subst l156 y156 z156
  dsimp only [Pt.U] at hS156 hgr156
  obtain ⟨X156r, hS156r, hZ156, hO156⟩ := rebS hS131r (Nat.le_refl _) X156 hS156 hgr156 hZ131 hO131
  obtain ⟨rfl, N156q, K156⟩ := hQ156
  have N156 := Fr.app N131 N156q
  have f158 := ((Keep.refl T131.heap [])).trans K156 (own_all0 )
  have f159 := (f134).keep K156 (own_all0 )
  have f160 := (f135).keep K156
  have f161 := (f136).keep K156 own_notin0
  have f162 := (f137).keep K156 own_notin0
  have f163 := (f138).keep K156 own_notin0
  have f164 := (f139).keep K156
  have f165 := (f140).keep K156 own_notin0
  have f166 := (f141).keep K156 own_notin0
  have f167 := (f142).keep K156 own_notin0
  have f168 := (f143).keep K156
  have f169 := (f144).keep K156 own_notin0
  have f170 := (f145).keep K156 own_notin0
  have f171 := (f146).keep K156
  have f172 := (f147).keep K156 own_notin0
  have f173 := (f148).keep K156
  have f174 := (f149).keep K156 own_notin0
  have f175 := (f150).keep K156 own_notin0
  have f176 := (f151).keep K156 own_notin0
  have Zf177 : n0 ≤ T156.heap.size := Nat.le_trans Zf152 (K156).1
  have ch178 : CHr Z own_EL s.vm h0 T156.vm T156.heap := CHr.trans ch157 hC156
  have pre179 : ∀ t, Steps p.tables e below (T156.setTop (mkF m 105 #[.val (.int p1), .val (.int p2), .val (.ref x22), .val (.ref x30), .val (.ref u75), .val (.ref m75), .val (.int (Int32.ofNat cs22.length)), .val (.int (Int32.ofNat cs30.length))] [(.int (1 : Int32))])) t → Steps p.tables e below (s₁.setTop (entryFrame m #[(.int p1), (.int p2)] maxLocals)) t := fun t kt => pre155 t (st156.trans kt)
  have pre180 : ∀ t, Steps p.tables e below (T156.setTop (mkF m 113 #[.val (.int p1), .val (.int p2), .val (.ref x22), .val (.ref x30), .val (.ref u75), .val (.ref m75), .val (.int (Int32.ofNat cs22.length)), .val (.int (Int32.ofNat cs30.length))] [(.int (3 : Int32)), (.ref x30), (.ref x22), (.ref m75)])) t → Steps p.tables e below (s₁.setTop (entryFrame m #[(.int p1), (.int p2)] maxLocals)) t := fun t kt => pre179 t (by
    refine XS.ifNo X156r.here hx rfl (hb hby at_105) rfl ((if0 _ _).trans (feq (by decide : ¬ ((1 : Int32) = (0 : Int32)))).1) ?_
    show Steps p.tables e below (T156.setTop (mkF m 108 #[.val (.int p1), .val (.int p2), .val (.ref x22), .val (.ref x30), .val (.ref u75), .val (.ref m75), .val (.int (Int32.ofNat cs22.length)), .val (.int (Int32.ofNat cs30.length))] [])) _
    refine XS.aload X156r.here hx rfl (hb hby at_108) rfl rfl ?_
    show Steps p.tables e below (T156.setTop (mkF m 110 #[.val (.int p1), .val (.int p2), .val (.ref x22), .val (.ref x30), .val (.ref u75), .val (.ref m75), .val (.int (Int32.ofNat cs22.length)), .val (.int (Int32.ofNat cs30.length))] [(.ref m75)])) _
    refine XS.aloadN X156r.here hx rfl (hb hby at_110) rfl rfl ?_
    show Steps p.tables e below (T156.setTop (mkF m 111 #[.val (.int p1), .val (.int p2), .val (.ref x22), .val (.ref x30), .val (.ref u75), .val (.ref m75), .val (.int (Int32.ofNat cs22.length)), .val (.int (Int32.ofNat cs30.length))] [(.ref x22), (.ref m75)])) _
    refine XS.aloadN X156r.here hx rfl (hb hby at_111) rfl rfl ?_
    show Steps p.tables e below (T156.setTop (mkF m 112 #[.val (.int p1), .val (.int p2), .val (.ref x22), .val (.ref x30), .val (.ref u75), .val (.ref m75), .val (.int (Int32.ofNat cs22.length)), .val (.int (Int32.ofNat cs30.length))] [(.ref x30), (.ref x22), (.ref m75)])) _
    refine XS.iconst X156r.here hx rfl (hb hby at_112) ?_
    show Steps p.tables e below (T156.setTop (mkF m 113 #[.val (.int p1), .val (.int p2), .val (.ref x22), .val (.ref x30), .val (.ref u75), .val (.ref m75), .val (.int (Int32.ofNat cs22.length)), .val (.int (Int32.ofNat cs30.length))] [(.int (3 : Int32)), (.ref x30), (.ref x22), (.ref m75)])) _
    exact kt)
  have sf182 : ∀ y ∈ ([] : List Addr), Safe Z own_EL T156.vm T156.heap y := sf0
  have ch182 : CHr Z own_EL s.vm h0 T156.vm T156.heap := CHr.trans ch178 (CHr.keep (Keep.refl T156.heap []) sf182 (ch178).1)
  obtain ⟨_, _, ⟨T181, L181, k181, n181⟩, -, X181, hS181, hgr181, ⟨Lc181, hQ181, l181, y181, z181, hC181⟩, st181⟩ := callSS X156r hx (y := (⟨"kakehashi/cli/OptionMissingPinLaw", "ok", "(Ljava/lang/String;Ljava/lang/String;Ljava/lang/String;I)Z"⟩ : MethodName)) hO156 (mvT hZ156 (hw _ (List.mem_of_getElem? (i := 225) rfl))) (mvT hZ156 (hw _ (List.mem_of_getElem? (i := 226) rfl))) (mvT hZ156 (hw _ (List.mem_of_getElem? (i := 2) rfl))) (mvT hZ156 (hw _ (List.mem_of_getElem? (i := 227) rfl))) (by decide) (backOfSH (s := s) (vm0 := T156.vm) (W := 0) (rmOk l Z a0 hw [] m75 x22 x30 t75 t22 t30 _ _ _ cs22 cs30 3 (3 : Int32) z0 fm T156.heap n0 Zf177 f173 f174 f175 f176 f160 f162 f161 f163 f164 f166 f165 f167 hl22 hl30 lat22 lat30 rfl (by decide) f159 S0 hz S1 hfm) hZ156 (hw _ (List.mem_of_getElem? (i := 227) rfl)) (hw _ (List.mem_of_getElem? (i := 2) rfl)) (by decide) (by decide) (own_EW hw) (ch182).1) (g := (mkF m 113 #[.val (.int p1), .val (.int p2), .val (.ref x22), .val (.ref x30), .val (.ref u75), .val (.ref m75), .val (.int (Int32.ofNat cs22.length)), .val (.int (Int32.ofNat cs30.length))] [(.int (3 : Int32)), (.ref x30), (.ref x22), (.ref m75)])) rfl (by rw [hml]; rfl) (argsL := [(.ref m75), (.ref x22), (.ref x30), (.int (3 : Int32))]) (rest := []) (lenOf pd__28Ljava_2flang_2fString_3bLjava_2flang_2fString_3bLjava_2flang_2fString_3bI_29Z rfl) rfl (by show 2 * 0 + _ ≤ _; exact Nat.le_of_eq rfl) (hb hby at_113) (fun _ _ => ⟨rfl, rfl, (by decide : 23 + 2 ≤ _), (by decide : 2945 + 32 ≤ _)⟩)
  dsimp only [Pt.U, Pt.locs, Pt.cells, Pt.slots] at X181 l181 y181 z181 st181 hQ181 hC181
  subst l181 y181 z181
  dsimp only [Pt.U] at hS181 hgr181
  obtain ⟨X181r, hS181r, hZ181, hO181⟩ := rebS hS156r (Nat.le_refl _) X181 hS181 hgr181 hZ156 hO156
  obtain ⟨rfl, N181q, K181⟩ := hQ181
  have N181 := Fr.app N156 N181q
  have f183 := ((Keep.refl T156.heap [])).trans K181 (own_all0 )
  have f184 := (f159).keep K181 (own_all0 )
  have f185 := (f160).keep K181
  have f186 := (f161).keep K181 own_notin0
  have f187 := (f162).keep K181 own_notin0
  have f188 := (f163).keep K181 own_notin0
  have f189 := (f164).keep K181
  have f190 := (f165).keep K181 own_notin0
  have f191 := (f166).keep K181 own_notin0
  have f192 := (f167).keep K181 own_notin0
  have f193 := (f168).keep K181
  have f194 := (f169).keep K181 own_notin0
  have f195 := (f170).keep K181 own_notin0
  have f196 := (f171).keep K181
  have f197 := (f172).keep K181 own_notin0
  have f198 := (f173).keep K181
  have f199 := (f174).keep K181 own_notin0
  have f200 := (f175).keep K181 own_notin0
  have f201 := (f176).keep K181 own_notin0
  have Zf202 : n0 ≤ T181.heap.size := Nat.le_trans Zf177 (K181).1
  have ch203 : CHr Z own_EL s.vm h0 T181.vm T181.heap := CHr.trans ch182 hC181
  have pre204 : ∀ t, Steps p.tables e below (T181.setTop (mkF m 116 #[.val (.int p1), .val (.int p2), .val (.ref x22), .val (.ref x30), .val (.ref u75), .val (.ref m75), .val (.int (Int32.ofNat cs22.length)), .val (.int (Int32.ofNat cs30.length))] [(.int (1 : Int32))])) t → Steps p.tables e below (s₁.setTop (entryFrame m #[(.int p1), (.int p2)] maxLocals)) t := fun t kt => pre180 t (st181.trans kt)
  have pre205 : ∀ t, Steps p.tables e below (T181.setTop (mkF m 124 #[.val (.int p1), .val (.int p2), .val (.ref x22), .val (.ref x30), .val (.ref u75), .val (.ref m75), .val (.int (Int32.ofNat cs22.length)), .val (.int (Int32.ofNat cs30.length))] [(.int (4 : Int32)), (.ref x30), (.ref x22), (.ref m75)])) t → Steps p.tables e below (s₁.setTop (entryFrame m #[(.int p1), (.int p2)] maxLocals)) t := fun t kt => pre204 t (by
    refine XS.ifNo X181r.here hx rfl (hb hby at_116) rfl ((if0 _ _).trans (feq (by decide : ¬ ((1 : Int32) = (0 : Int32)))).1) ?_
    show Steps p.tables e below (T181.setTop (mkF m 119 #[.val (.int p1), .val (.int p2), .val (.ref x22), .val (.ref x30), .val (.ref u75), .val (.ref m75), .val (.int (Int32.ofNat cs22.length)), .val (.int (Int32.ofNat cs30.length))] [])) _
    refine XS.aload X181r.here hx rfl (hb hby at_119) rfl rfl ?_
    show Steps p.tables e below (T181.setTop (mkF m 121 #[.val (.int p1), .val (.int p2), .val (.ref x22), .val (.ref x30), .val (.ref u75), .val (.ref m75), .val (.int (Int32.ofNat cs22.length)), .val (.int (Int32.ofNat cs30.length))] [(.ref m75)])) _
    refine XS.aloadN X181r.here hx rfl (hb hby at_121) rfl rfl ?_
    show Steps p.tables e below (T181.setTop (mkF m 122 #[.val (.int p1), .val (.int p2), .val (.ref x22), .val (.ref x30), .val (.ref u75), .val (.ref m75), .val (.int (Int32.ofNat cs22.length)), .val (.int (Int32.ofNat cs30.length))] [(.ref x22), (.ref m75)])) _
    refine XS.aloadN X181r.here hx rfl (hb hby at_122) rfl rfl ?_
    show Steps p.tables e below (T181.setTop (mkF m 123 #[.val (.int p1), .val (.int p2), .val (.ref x22), .val (.ref x30), .val (.ref u75), .val (.ref m75), .val (.int (Int32.ofNat cs22.length)), .val (.int (Int32.ofNat cs30.length))] [(.ref x30), (.ref x22), (.ref m75)])) _
    refine XS.iconst X181r.here hx rfl (hb hby at_123) ?_
    show Steps p.tables e below (T181.setTop (mkF m 124 #[.val (.int p1), .val (.int p2), .val (.ref x22), .val (.ref x30), .val (.ref u75), .val (.ref m75), .val (.int (Int32.ofNat cs22.length)), .val (.int (Int32.ofNat cs30.length))] [(.int (4 : Int32)), (.ref x30), (.ref x22), (.ref m75)])) _
    exact kt)
  have sf207 : ∀ y ∈ ([] : List Addr), Safe Z own_EL T181.vm T181.heap y := sf0
  have ch207 : CHr Z own_EL s.vm h0 T181.vm T181.heap := CHr.trans ch203 (CHr.keep (Keep.refl T181.heap []) sf207 (ch203).1)
  obtain ⟨_, _, ⟨T206, L206, k206, n206⟩, -, X206, hS206, hgr206, ⟨Lc206, hQ206, l206, y206, z206, hC206⟩, st206⟩ := callSS X181r hx (y := (⟨"kakehashi/cli/OptionMissingPinLaw", "ok", "(Ljava/lang/String;Ljava/lang/String;Ljava/lang/String;I)Z"⟩ : MethodName)) hO181 (mvT hZ181 (hw _ (List.mem_of_getElem? (i := 225) rfl))) (mvT hZ181 (hw _ (List.mem_of_getElem? (i := 226) rfl))) (mvT hZ181 (hw _ (List.mem_of_getElem? (i := 2) rfl))) (mvT hZ181 (hw _ (List.mem_of_getElem? (i := 227) rfl))) (by decide) (backOfSH (s := s) (vm0 := T181.vm) (W := 0) (rmOk l Z a0 hw [] m75 x22 x30 t75 t22 t30 _ _ _ cs22 cs30 4 (4 : Int32) z0 fm T181.heap n0 Zf202 f198 f199 f200 f201 f185 f187 f186 f188 f189 f191 f190 f192 hl22 hl30 lat22 lat30 rfl (by decide) f184 S0 hz S1 hfm) hZ181 (hw _ (List.mem_of_getElem? (i := 227) rfl)) (hw _ (List.mem_of_getElem? (i := 2) rfl)) (by decide) (by decide) (own_EW hw) (ch207).1) (g := (mkF m 124 #[.val (.int p1), .val (.int p2), .val (.ref x22), .val (.ref x30), .val (.ref u75), .val (.ref m75), .val (.int (Int32.ofNat cs22.length)), .val (.int (Int32.ofNat cs30.length))] [(.int (4 : Int32)), (.ref x30), (.ref x22), (.ref m75)])) rfl (by rw [hml]; rfl) (argsL := [(.ref m75), (.ref x22), (.ref x30), (.int (4 : Int32))]) (rest := []) (lenOf pd__28Ljava_2flang_2fString_3bLjava_2flang_2fString_3bLjava_2flang_2fString_3bI_29Z rfl) rfl (by show 2 * 0 + _ ≤ _; exact Nat.le_of_eq rfl) (hb hby at_124) (fun _ _ => ⟨rfl, rfl, (by decide : 25 + 2 ≤ _), (by decide : 2977 + 32 ≤ _)⟩)
  dsimp only [Pt.U, Pt.locs, Pt.cells, Pt.slots] at X206 l206 y206 z206 st206 hQ206 hC206
  subst l206 y206 z206
  dsimp only [Pt.U] at hS206 hgr206
  obtain ⟨X206r, hS206r, hZ206, hO206⟩ := rebS hS181r (Nat.le_refl _) X206 hS206 hgr206 hZ181 hO181
  obtain ⟨rfl, N206q, K206⟩ := hQ206
  have N206 := Fr.app N181 N206q
  have f208 := ((Keep.refl T181.heap [])).trans K206 (own_all0 )
  have f209 := (f184).keep K206 (own_all0 )
  have f210 := (f185).keep K206
  have f211 := (f186).keep K206 own_notin0
  have f212 := (f187).keep K206 own_notin0
  have f213 := (f188).keep K206 own_notin0
  have f214 := (f189).keep K206
  have f215 := (f190).keep K206 own_notin0
  have f216 := (f191).keep K206 own_notin0
  have f217 := (f192).keep K206 own_notin0
  have f218 := (f193).keep K206
  have f219 := (f194).keep K206 own_notin0
  have f220 := (f195).keep K206 own_notin0
  have f221 := (f196).keep K206
  have f222 := (f197).keep K206 own_notin0
  have f223 := (f198).keep K206
  have f224 := (f199).keep K206 own_notin0
  have f225 := (f200).keep K206 own_notin0
  have f226 := (f201).keep K206 own_notin0
  have Zf227 : n0 ≤ T206.heap.size := Nat.le_trans Zf202 (K206).1
  have ch228 : CHr Z own_EL s.vm h0 T206.vm T206.heap := CHr.trans ch207 hC206
  have pre229 : ∀ t, Steps p.tables e below (T206.setTop (mkF m 127 #[.val (.int p1), .val (.int p2), .val (.ref x22), .val (.ref x30), .val (.ref u75), .val (.ref m75), .val (.int (Int32.ofNat cs22.length)), .val (.int (Int32.ofNat cs30.length))] [(.int (1 : Int32))])) t → Steps p.tables e below (s₁.setTop (entryFrame m #[(.int p1), (.int p2)] maxLocals)) t := fun t kt => pre205 t (st206.trans kt)
  have pre230 : ∀ t, Steps p.tables e below (T206.setTop (mkF m 135 #[.val (.int p1), .val (.int p2), .val (.ref x22), .val (.ref x30), .val (.ref u75), .val (.ref m75), .val (.int (Int32.ofNat cs22.length)), .val (.int (Int32.ofNat cs30.length))] [(.int (5 : Int32)), (.ref x30), (.ref x22), (.ref m75)])) t → Steps p.tables e below (s₁.setTop (entryFrame m #[(.int p1), (.int p2)] maxLocals)) t := fun t kt => pre229 t (by
    refine XS.ifNo X206r.here hx rfl (hb hby at_127) rfl ((if0 _ _).trans (feq (by decide : ¬ ((1 : Int32) = (0 : Int32)))).1) ?_
    show Steps p.tables e below (T206.setTop (mkF m 130 #[.val (.int p1), .val (.int p2), .val (.ref x22), .val (.ref x30), .val (.ref u75), .val (.ref m75), .val (.int (Int32.ofNat cs22.length)), .val (.int (Int32.ofNat cs30.length))] [])) _
    refine XS.aload X206r.here hx rfl (hb hby at_130) rfl rfl ?_
    show Steps p.tables e below (T206.setTop (mkF m 132 #[.val (.int p1), .val (.int p2), .val (.ref x22), .val (.ref x30), .val (.ref u75), .val (.ref m75), .val (.int (Int32.ofNat cs22.length)), .val (.int (Int32.ofNat cs30.length))] [(.ref m75)])) _
    refine XS.aloadN X206r.here hx rfl (hb hby at_132) rfl rfl ?_
    show Steps p.tables e below (T206.setTop (mkF m 133 #[.val (.int p1), .val (.int p2), .val (.ref x22), .val (.ref x30), .val (.ref u75), .val (.ref m75), .val (.int (Int32.ofNat cs22.length)), .val (.int (Int32.ofNat cs30.length))] [(.ref x22), (.ref m75)])) _
    refine XS.aloadN X206r.here hx rfl (hb hby at_133) rfl rfl ?_
    show Steps p.tables e below (T206.setTop (mkF m 134 #[.val (.int p1), .val (.int p2), .val (.ref x22), .val (.ref x30), .val (.ref u75), .val (.ref m75), .val (.int (Int32.ofNat cs22.length)), .val (.int (Int32.ofNat cs30.length))] [(.ref x30), (.ref x22), (.ref m75)])) _
    refine XS.iconst X206r.here hx rfl (hb hby at_134) ?_
    show Steps p.tables e below (T206.setTop (mkF m 135 #[.val (.int p1), .val (.int p2), .val (.ref x22), .val (.ref x30), .val (.ref u75), .val (.ref m75), .val (.int (Int32.ofNat cs22.length)), .val (.int (Int32.ofNat cs30.length))] [(.int (5 : Int32)), (.ref x30), (.ref x22), (.ref m75)])) _
    exact kt)
  have sf232 : ∀ y ∈ ([] : List Addr), Safe Z own_EL T206.vm T206.heap y := sf0
  have ch232 : CHr Z own_EL s.vm h0 T206.vm T206.heap := CHr.trans ch228 (CHr.keep (Keep.refl T206.heap []) sf232 (ch228).1)
  obtain ⟨_, _, ⟨T231, L231, k231, n231⟩, -, X231, hS231, hgr231, ⟨Lc231, hQ231, l231, y231, z231, hC231⟩, st231⟩ := callSS X206r hx (y := (⟨"kakehashi/cli/OptionMissingPinLaw", "ok", "(Ljava/lang/String;Ljava/lang/String;Ljava/lang/String;I)Z"⟩ : MethodName)) hO206 (mvT hZ206 (hw _ (List.mem_of_getElem? (i := 225) rfl))) (mvT hZ206 (hw _ (List.mem_of_getElem? (i := 226) rfl))) (mvT hZ206 (hw _ (List.mem_of_getElem? (i := 2) rfl))) (mvT hZ206 (hw _ (List.mem_of_getElem? (i := 227) rfl))) (by decide) (backOfSH (s := s) (vm0 := T206.vm) (W := 0) (rmOk l Z a0 hw [] m75 x22 x30 t75 t22 t30 _ _ _ cs22 cs30 5 (5 : Int32) z0 fm T206.heap n0 Zf227 f223 f224 f225 f226 f210 f212 f211 f213 f214 f216 f215 f217 hl22 hl30 lat22 lat30 rfl (by decide) f209 S0 hz S1 hfm) hZ206 (hw _ (List.mem_of_getElem? (i := 227) rfl)) (hw _ (List.mem_of_getElem? (i := 2) rfl)) (by decide) (by decide) (own_EW hw) (ch232).1) (g := (mkF m 135 #[.val (.int p1), .val (.int p2), .val (.ref x22), .val (.ref x30), .val (.ref u75), .val (.ref m75), .val (.int (Int32.ofNat cs22.length)), .val (.int (Int32.ofNat cs30.length))] [(.int (5 : Int32)), (.ref x30), (.ref x22), (.ref m75)])) rfl (by rw [hml]; rfl) (argsL := [(.ref m75), (.ref x22), (.ref x30), (.int (5 : Int32))]) (rest := []) (lenOf pd__28Ljava_2flang_2fString_3bLjava_2flang_2fString_3bLjava_2flang_2fString_3bI_29Z rfl) rfl (by show 2 * 0 + _ ≤ _; exact Nat.le_of_eq rfl) (hb hby at_135) (fun _ _ => ⟨rfl, rfl, (by decide : 27 + 2 ≤ _), (by decide : 3009 + 32 ≤ _)⟩)
  dsimp only [Pt.U, Pt.locs, Pt.cells, Pt.slots] at X231 l231 y231 z231 st231 hQ231 hC231
  subst l231 y231 z231
  dsimp only [Pt.U] at hS231 hgr231
  obtain ⟨X231r, hS231r, hZ231, hO231⟩ := rebS hS206r (Nat.le_refl _) X231 hS231 hgr231 hZ206 hO206
  obtain ⟨rfl, N231q, K231⟩ := hQ231
  have N231 := Fr.app N206 N231q
  have f233 := ((Keep.refl T206.heap [])).trans K231 (own_all0 )
  have f234 := (f209).keep K231 (own_all0 )
  have f235 := (f210).keep K231
  have f236 := (f211).keep K231 own_notin0
  have f237 := (f212).keep K231 own_notin0
  have f238 := (f213).keep K231 own_notin0
  have f239 := (f214).keep K231
  have f240 := (f215).keep K231 own_notin0
  have f241 := (f216).keep K231 own_notin0
  have f242 := (f217).keep K231 own_notin0
  have f243 := (f218).keep K231
  have f244 := (f219).keep K231 own_notin0
  have f245 := (f220).keep K231 own_notin0
  have f246 := (f221).keep K231
  have f247 := (f222).keep K231 own_notin0
  have f248 := (f223).keep K231
  have f249 := (f224).keep K231 own_notin0
  have f250 := (f225).keep K231 own_notin0
  have f251 := (f226).keep K231 own_notin0
  have Zf252 : n0 ≤ T231.heap.size := Nat.le_trans Zf227 (K231).1
  have ch253 : CHr Z own_EL s.vm h0 T231.vm T231.heap := CHr.trans ch232 hC231
  have pre254 : ∀ t, Steps p.tables e below (T231.setTop (mkF m 138 #[.val (.int p1), .val (.int p2), .val (.ref x22), .val (.ref x30), .val (.ref u75), .val (.ref m75), .val (.int (Int32.ofNat cs22.length)), .val (.int (Int32.ofNat cs30.length))] [(.int (1 : Int32))])) t → Steps p.tables e below (s₁.setTop (entryFrame m #[(.int p1), (.int p2)] maxLocals)) t := fun t kt => pre230 t (st231.trans kt)
  have pre255 : ∀ t, Steps p.tables e below (T231.setTop (mkF m 147 #[.val (.int p1), .val (.int p2), .val (.ref x22), .val (.ref x30), .val (.ref u75), .val (.ref m75), .val (.int (Int32.ofNat cs22.length)), .val (.int (Int32.ofNat cs30.length))] [(.int (6 : Int32)), (.ref x30), (.ref x22), (.ref m75)])) t → Steps p.tables e below (s₁.setTop (entryFrame m #[(.int p1), (.int p2)] maxLocals)) t := fun t kt => pre254 t (by
    refine XS.ifNo X231r.here hx rfl (hb hby at_138) rfl ((if0 _ _).trans (feq (by decide : ¬ ((1 : Int32) = (0 : Int32)))).1) ?_
    show Steps p.tables e below (T231.setTop (mkF m 141 #[.val (.int p1), .val (.int p2), .val (.ref x22), .val (.ref x30), .val (.ref u75), .val (.ref m75), .val (.int (Int32.ofNat cs22.length)), .val (.int (Int32.ofNat cs30.length))] [])) _
    refine XS.aload X231r.here hx rfl (hb hby at_141) rfl rfl ?_
    show Steps p.tables e below (T231.setTop (mkF m 143 #[.val (.int p1), .val (.int p2), .val (.ref x22), .val (.ref x30), .val (.ref u75), .val (.ref m75), .val (.int (Int32.ofNat cs22.length)), .val (.int (Int32.ofNat cs30.length))] [(.ref m75)])) _
    refine XS.aloadN X231r.here hx rfl (hb hby at_143) rfl rfl ?_
    show Steps p.tables e below (T231.setTop (mkF m 144 #[.val (.int p1), .val (.int p2), .val (.ref x22), .val (.ref x30), .val (.ref u75), .val (.ref m75), .val (.int (Int32.ofNat cs22.length)), .val (.int (Int32.ofNat cs30.length))] [(.ref x22), (.ref m75)])) _
    refine XS.aloadN X231r.here hx rfl (hb hby at_144) rfl rfl ?_
    show Steps p.tables e below (T231.setTop (mkF m 145 #[.val (.int p1), .val (.int p2), .val (.ref x22), .val (.ref x30), .val (.ref u75), .val (.ref m75), .val (.int (Int32.ofNat cs22.length)), .val (.int (Int32.ofNat cs30.length))] [(.ref x30), (.ref x22), (.ref m75)])) _
    refine XS.bipush X231r.here hx rfl (hb hby at_145) ?_
    show Steps p.tables e below (T231.setTop (mkF m 147 #[.val (.int p1), .val (.int p2), .val (.ref x22), .val (.ref x30), .val (.ref u75), .val (.ref m75), .val (.int (Int32.ofNat cs22.length)), .val (.int (Int32.ofNat cs30.length))] [(.int (6 : Int32)), (.ref x30), (.ref x22), (.ref m75)])) _
    exact kt)
  have sf257 : ∀ y ∈ ([] : List Addr), Safe Z own_EL T231.vm T231.heap y := sf0
  have ch257 : CHr Z own_EL s.vm h0 T231.vm T231.heap := CHr.trans ch253 (CHr.keep (Keep.refl T231.heap []) sf257 (ch253).1)
  obtain ⟨_, _, ⟨T256, L256, k256, n256⟩, -, X256, hS256, hgr256, ⟨Lc256, hQ256, l256, y256, z256, hC256⟩, st256⟩ := callSS X231r hx (y := (⟨"kakehashi/cli/OptionMissingPinLaw", "ok", "(Ljava/lang/String;Ljava/lang/String;Ljava/lang/String;I)Z"⟩ : MethodName)) hO231 (mvT hZ231 (hw _ (List.mem_of_getElem? (i := 225) rfl))) (mvT hZ231 (hw _ (List.mem_of_getElem? (i := 226) rfl))) (mvT hZ231 (hw _ (List.mem_of_getElem? (i := 2) rfl))) (mvT hZ231 (hw _ (List.mem_of_getElem? (i := 227) rfl))) (by decide) (backOfSH (s := s) (vm0 := T231.vm) (W := 0) (rmOk l Z a0 hw [] m75 x22 x30 t75 t22 t30 _ _ _ cs22 cs30 6 (6 : Int32) z0 fm T231.heap n0 Zf252 f248 f249 f250 f251 f235 f237 f236 f238 f239 f241 f240 f242 hl22 hl30 lat22 lat30 rfl (by decide) f234 S0 hz S1 hfm) hZ231 (hw _ (List.mem_of_getElem? (i := 227) rfl)) (hw _ (List.mem_of_getElem? (i := 2) rfl)) (by decide) (by decide) (own_EW hw) (ch257).1) (g := (mkF m 147 #[.val (.int p1), .val (.int p2), .val (.ref x22), .val (.ref x30), .val (.ref u75), .val (.ref m75), .val (.int (Int32.ofNat cs22.length)), .val (.int (Int32.ofNat cs30.length))] [(.int (6 : Int32)), (.ref x30), (.ref x22), (.ref m75)])) rfl (by rw [hml]; rfl) (argsL := [(.ref m75), (.ref x22), (.ref x30), (.int (6 : Int32))]) (rest := []) (lenOf pd__28Ljava_2flang_2fString_3bLjava_2flang_2fString_3bLjava_2flang_2fString_3bI_29Z rfl) rfl (by show 2 * 0 + _ ≤ _; exact Nat.le_of_eq rfl) (hb hby at_147) (fun _ _ => ⟨rfl, rfl, (by decide : 29 + 2 ≤ _), (by decide : 3041 + 32 ≤ _)⟩)
  dsimp only [Pt.U, Pt.locs, Pt.cells, Pt.slots] at X256 l256 y256 z256 st256 hQ256 hC256
  subst l256 y256 z256
  dsimp only [Pt.U] at hS256 hgr256
  obtain ⟨X256r, hS256r, hZ256, hO256⟩ := rebS hS231r (Nat.le_refl _) X256 hS256 hgr256 hZ231 hO231
  obtain ⟨rfl, N256q, K256⟩ := hQ256
  have N256 := Fr.app N231 N256q
  have f258 := ((Keep.refl T231.heap [])).trans K256 (own_all0 )
  have f259 := (f234).keep K256 (own_all0 )
  have f260 := (f235).keep K256
  have f261 := (f236).keep K256 own_notin0
  have f262 := (f237).keep K256 own_notin0
  have f263 := (f238).keep K256 own_notin0
  have f264 := (f239).keep K256
  have f265 := (f240).keep K256 own_notin0
  have f266 := (f241).keep K256 own_notin0
  have f267 := (f242).keep K256 own_notin0
  have f268 := (f243).keep K256
  have f269 := (f244).keep K256 own_notin0
  have f270 := (f245).keep K256 own_notin0
  have f271 := (f246).keep K256
  have f272 := (f247).keep K256 own_notin0
  have f273 := (f248).keep K256
  have f274 := (f249).keep K256 own_notin0
  have f275 := (f250).keep K256 own_notin0
  have f276 := (f251).keep K256 own_notin0
  have Zf277 : n0 ≤ T256.heap.size := Nat.le_trans Zf252 (K256).1
  have ch278 : CHr Z own_EL s.vm h0 T256.vm T256.heap := CHr.trans ch257 hC256
  have pre279 : ∀ t, Steps p.tables e below (T256.setTop (mkF m 150 #[.val (.int p1), .val (.int p2), .val (.ref x22), .val (.ref x30), .val (.ref u75), .val (.ref m75), .val (.int (Int32.ofNat cs22.length)), .val (.int (Int32.ofNat cs30.length))] [(.int (1 : Int32))])) t → Steps p.tables e below (s₁.setTop (entryFrame m #[(.int p1), (.int p2)] maxLocals)) t := fun t kt => pre255 t (st256.trans kt)
  have pre280 : ∀ t, Steps p.tables e below (T256.setTop (mkF m 159 #[.val (.int p1), .val (.int p2), .val (.ref x22), .val (.ref x30), .val (.ref u75), .val (.ref m75), .val (.int (Int32.ofNat cs22.length)), .val (.int (Int32.ofNat cs30.length))] [(.int (7 : Int32)), (.ref x30), (.ref x22), (.ref m75)])) t → Steps p.tables e below (s₁.setTop (entryFrame m #[(.int p1), (.int p2)] maxLocals)) t := fun t kt => pre279 t (by
    refine XS.ifNo X256r.here hx rfl (hb hby at_150) rfl ((if0 _ _).trans (feq (by decide : ¬ ((1 : Int32) = (0 : Int32)))).1) ?_
    show Steps p.tables e below (T256.setTop (mkF m 153 #[.val (.int p1), .val (.int p2), .val (.ref x22), .val (.ref x30), .val (.ref u75), .val (.ref m75), .val (.int (Int32.ofNat cs22.length)), .val (.int (Int32.ofNat cs30.length))] [])) _
    refine XS.aload X256r.here hx rfl (hb hby at_153) rfl rfl ?_
    show Steps p.tables e below (T256.setTop (mkF m 155 #[.val (.int p1), .val (.int p2), .val (.ref x22), .val (.ref x30), .val (.ref u75), .val (.ref m75), .val (.int (Int32.ofNat cs22.length)), .val (.int (Int32.ofNat cs30.length))] [(.ref m75)])) _
    refine XS.aloadN X256r.here hx rfl (hb hby at_155) rfl rfl ?_
    show Steps p.tables e below (T256.setTop (mkF m 156 #[.val (.int p1), .val (.int p2), .val (.ref x22), .val (.ref x30), .val (.ref u75), .val (.ref m75), .val (.int (Int32.ofNat cs22.length)), .val (.int (Int32.ofNat cs30.length))] [(.ref x22), (.ref m75)])) _
    refine XS.aloadN X256r.here hx rfl (hb hby at_156) rfl rfl ?_
    show Steps p.tables e below (T256.setTop (mkF m 157 #[.val (.int p1), .val (.int p2), .val (.ref x22), .val (.ref x30), .val (.ref u75), .val (.ref m75), .val (.int (Int32.ofNat cs22.length)), .val (.int (Int32.ofNat cs30.length))] [(.ref x30), (.ref x22), (.ref m75)])) _
    refine XS.bipush X256r.here hx rfl (hb hby at_157) ?_
    show Steps p.tables e below (T256.setTop (mkF m 159 #[.val (.int p1), .val (.int p2), .val (.ref x22), .val (.ref x30), .val (.ref u75), .val (.ref m75), .val (.int (Int32.ofNat cs22.length)), .val (.int (Int32.ofNat cs30.length))] [(.int (7 : Int32)), (.ref x30), (.ref x22), (.ref m75)])) _
    exact kt)
  have sf282 : ∀ y ∈ ([] : List Addr), Safe Z own_EL T256.vm T256.heap y := sf0
  have ch282 : CHr Z own_EL s.vm h0 T256.vm T256.heap := CHr.trans ch278 (CHr.keep (Keep.refl T256.heap []) sf282 (ch278).1)
  obtain ⟨_, _, ⟨T281, L281, k281, n281⟩, -, X281, hS281, hgr281, ⟨Lc281, hQ281, l281, y281, z281, hC281⟩, st281⟩ := callSS X256r hx (y := (⟨"kakehashi/cli/OptionMissingPinLaw", "ok", "(Ljava/lang/String;Ljava/lang/String;Ljava/lang/String;I)Z"⟩ : MethodName)) hO256 (mvT hZ256 (hw _ (List.mem_of_getElem? (i := 225) rfl))) (mvT hZ256 (hw _ (List.mem_of_getElem? (i := 226) rfl))) (mvT hZ256 (hw _ (List.mem_of_getElem? (i := 2) rfl))) (mvT hZ256 (hw _ (List.mem_of_getElem? (i := 227) rfl))) (by decide) (backOfSH (s := s) (vm0 := T256.vm) (W := 0) (rmOk l Z a0 hw [] m75 x22 x30 t75 t22 t30 _ _ _ cs22 cs30 7 (7 : Int32) z0 fm T256.heap n0 Zf277 f273 f274 f275 f276 f260 f262 f261 f263 f264 f266 f265 f267 hl22 hl30 lat22 lat30 rfl (by decide) f259 S0 hz S1 hfm) hZ256 (hw _ (List.mem_of_getElem? (i := 227) rfl)) (hw _ (List.mem_of_getElem? (i := 2) rfl)) (by decide) (by decide) (own_EW hw) (ch282).1) (g := (mkF m 159 #[.val (.int p1), .val (.int p2), .val (.ref x22), .val (.ref x30), .val (.ref u75), .val (.ref m75), .val (.int (Int32.ofNat cs22.length)), .val (.int (Int32.ofNat cs30.length))] [(.int (7 : Int32)), (.ref x30), (.ref x22), (.ref m75)])) rfl (by rw [hml]; rfl) (argsL := [(.ref m75), (.ref x22), (.ref x30), (.int (7 : Int32))]) (rest := []) (lenOf pd__28Ljava_2flang_2fString_3bLjava_2flang_2fString_3bLjava_2flang_2fString_3bI_29Z rfl) rfl (by show 2 * 0 + _ ≤ _; exact Nat.le_of_eq rfl) (hb hby at_159) (fun _ _ => ⟨rfl, rfl, (by decide : 31 + 2 ≤ _), (by decide : 3073 + 32 ≤ _)⟩)
  dsimp only [Pt.U, Pt.locs, Pt.cells, Pt.slots] at X281 l281 y281 z281 st281 hQ281 hC281
  subst l281 y281 z281
  dsimp only [Pt.U] at hS281 hgr281
  obtain ⟨X281r, hS281r, hZ281, hO281⟩ := rebS hS256r (Nat.le_refl _) X281 hS281 hgr281 hZ256 hO256
  obtain ⟨rfl, N281q, K281⟩ := hQ281
  have N281 := Fr.app N256 N281q
  have f283 := ((Keep.refl T256.heap [])).trans K281 (own_all0 )
  have f284 := (f259).keep K281 (own_all0 )
  have f285 := (f260).keep K281
  have f286 := (f261).keep K281 own_notin0
  have f287 := (f262).keep K281 own_notin0
  have f288 := (f263).keep K281 own_notin0
  have f289 := (f264).keep K281
  have f290 := (f265).keep K281 own_notin0
  have f291 := (f266).keep K281 own_notin0
  have f292 := (f267).keep K281 own_notin0
  have f293 := (f268).keep K281
  have f294 := (f269).keep K281 own_notin0
  have f295 := (f270).keep K281 own_notin0
  have f296 := (f271).keep K281
  have f297 := (f272).keep K281 own_notin0
  have f298 := (f273).keep K281
  have f299 := (f274).keep K281 own_notin0
  have f300 := (f275).keep K281 own_notin0
  have f301 := (f276).keep K281 own_notin0
  have Zf302 : n0 ≤ T281.heap.size := Nat.le_trans Zf277 (K281).1
  have ch303 : CHr Z own_EL s.vm h0 T281.vm T281.heap := CHr.trans ch282 hC281
  have pre304 : ∀ t, Steps p.tables e below (T281.setTop (mkF m 162 #[.val (.int p1), .val (.int p2), .val (.ref x22), .val (.ref x30), .val (.ref u75), .val (.ref m75), .val (.int (Int32.ofNat cs22.length)), .val (.int (Int32.ofNat cs30.length))] [(.int (1 : Int32))])) t → Steps p.tables e below (s₁.setTop (entryFrame m #[(.int p1), (.int p2)] maxLocals)) t := fun t kt => pre280 t (st281.trans kt)
  have pre305 : ∀ t, Steps p.tables e below (T281.setTop (mkF m 171 #[.val (.int p1), .val (.int p2), .val (.ref x22), .val (.ref x30), .val (.ref u75), .val (.ref m75), .val (.int (Int32.ofNat cs22.length)), .val (.int (Int32.ofNat cs30.length))] [(.int (8 : Int32)), (.ref x30), (.ref x22), (.ref m75)])) t → Steps p.tables e below (s₁.setTop (entryFrame m #[(.int p1), (.int p2)] maxLocals)) t := fun t kt => pre304 t (by
    refine XS.ifNo X281r.here hx rfl (hb hby at_162) rfl ((if0 _ _).trans (feq (by decide : ¬ ((1 : Int32) = (0 : Int32)))).1) ?_
    show Steps p.tables e below (T281.setTop (mkF m 165 #[.val (.int p1), .val (.int p2), .val (.ref x22), .val (.ref x30), .val (.ref u75), .val (.ref m75), .val (.int (Int32.ofNat cs22.length)), .val (.int (Int32.ofNat cs30.length))] [])) _
    refine XS.aload X281r.here hx rfl (hb hby at_165) rfl rfl ?_
    show Steps p.tables e below (T281.setTop (mkF m 167 #[.val (.int p1), .val (.int p2), .val (.ref x22), .val (.ref x30), .val (.ref u75), .val (.ref m75), .val (.int (Int32.ofNat cs22.length)), .val (.int (Int32.ofNat cs30.length))] [(.ref m75)])) _
    refine XS.aloadN X281r.here hx rfl (hb hby at_167) rfl rfl ?_
    show Steps p.tables e below (T281.setTop (mkF m 168 #[.val (.int p1), .val (.int p2), .val (.ref x22), .val (.ref x30), .val (.ref u75), .val (.ref m75), .val (.int (Int32.ofNat cs22.length)), .val (.int (Int32.ofNat cs30.length))] [(.ref x22), (.ref m75)])) _
    refine XS.aloadN X281r.here hx rfl (hb hby at_168) rfl rfl ?_
    show Steps p.tables e below (T281.setTop (mkF m 169 #[.val (.int p1), .val (.int p2), .val (.ref x22), .val (.ref x30), .val (.ref u75), .val (.ref m75), .val (.int (Int32.ofNat cs22.length)), .val (.int (Int32.ofNat cs30.length))] [(.ref x30), (.ref x22), (.ref m75)])) _
    refine XS.bipush X281r.here hx rfl (hb hby at_169) ?_
    show Steps p.tables e below (T281.setTop (mkF m 171 #[.val (.int p1), .val (.int p2), .val (.ref x22), .val (.ref x30), .val (.ref u75), .val (.ref m75), .val (.int (Int32.ofNat cs22.length)), .val (.int (Int32.ofNat cs30.length))] [(.int (8 : Int32)), (.ref x30), (.ref x22), (.ref m75)])) _
    exact kt)
  have sf307 : ∀ y ∈ ([] : List Addr), Safe Z own_EL T281.vm T281.heap y := sf0
  have ch307 : CHr Z own_EL s.vm h0 T281.vm T281.heap := CHr.trans ch303 (CHr.keep (Keep.refl T281.heap []) sf307 (ch303).1)
  obtain ⟨_, _, ⟨T306, L306, k306, n306⟩, -, X306, hS306, hgr306, ⟨Lc306, hQ306, l306, y306, z306, hC306⟩, st306⟩ := callSS X281r hx (y := (⟨"kakehashi/cli/OptionMissingPinLaw", "ok", "(Ljava/lang/String;Ljava/lang/String;Ljava/lang/String;I)Z"⟩ : MethodName)) hO281 (mvT hZ281 (hw _ (List.mem_of_getElem? (i := 225) rfl))) (mvT hZ281 (hw _ (List.mem_of_getElem? (i := 226) rfl))) (mvT hZ281 (hw _ (List.mem_of_getElem? (i := 2) rfl))) (mvT hZ281 (hw _ (List.mem_of_getElem? (i := 227) rfl))) (by decide) (backOfSH (s := s) (vm0 := T281.vm) (W := 0) (rmOk l Z a0 hw [] m75 x22 x30 t75 t22 t30 _ _ _ cs22 cs30 8 (8 : Int32) z0 fm T281.heap n0 Zf302 f298 f299 f300 f301 f285 f287 f286 f288 f289 f291 f290 f292 hl22 hl30 lat22 lat30 rfl (by decide) f284 S0 hz S1 hfm) hZ281 (hw _ (List.mem_of_getElem? (i := 227) rfl)) (hw _ (List.mem_of_getElem? (i := 2) rfl)) (by decide) (by decide) (own_EW hw) (ch307).1) (g := (mkF m 171 #[.val (.int p1), .val (.int p2), .val (.ref x22), .val (.ref x30), .val (.ref u75), .val (.ref m75), .val (.int (Int32.ofNat cs22.length)), .val (.int (Int32.ofNat cs30.length))] [(.int (8 : Int32)), (.ref x30), (.ref x22), (.ref m75)])) rfl (by rw [hml]; rfl) (argsL := [(.ref m75), (.ref x22), (.ref x30), (.int (8 : Int32))]) (rest := []) (lenOf pd__28Ljava_2flang_2fString_3bLjava_2flang_2fString_3bLjava_2flang_2fString_3bI_29Z rfl) rfl (by show 2 * 0 + _ ≤ _; exact Nat.le_of_eq rfl) (hb hby at_171) (fun _ _ => ⟨rfl, rfl, (by decide : 33 + 2 ≤ _), (by decide : 3105 + 32 ≤ _)⟩)
  dsimp only [Pt.U, Pt.locs, Pt.cells, Pt.slots] at X306 l306 y306 z306 st306 hQ306 hC306
  subst l306 y306 z306
  dsimp only [Pt.U] at hS306 hgr306
  obtain ⟨X306r, hS306r, hZ306, hO306⟩ := rebS hS281r (Nat.le_refl _) X306 hS306 hgr306 hZ281 hO281
  obtain ⟨rfl, N306q, K306⟩ := hQ306
  have N306 := Fr.app N281 N306q
  have f308 := ((Keep.refl T281.heap [])).trans K306 (own_all0 )
  have f309 := (f284).keep K306 (own_all0 )
  have f310 := (f285).keep K306
  have f311 := (f286).keep K306 own_notin0
  have f312 := (f287).keep K306 own_notin0
  have f313 := (f288).keep K306 own_notin0
  have f314 := (f289).keep K306
  have f315 := (f290).keep K306 own_notin0
  have f316 := (f291).keep K306 own_notin0
  have f317 := (f292).keep K306 own_notin0
  have f318 := (f293).keep K306
  have f319 := (f294).keep K306 own_notin0
  have f320 := (f295).keep K306 own_notin0
  have f321 := (f296).keep K306
  have f322 := (f297).keep K306 own_notin0
  have f323 := (f298).keep K306
  have f324 := (f299).keep K306 own_notin0
  have f325 := (f300).keep K306 own_notin0
  have f326 := (f301).keep K306 own_notin0
  have Zf327 : n0 ≤ T306.heap.size := Nat.le_trans Zf302 (K306).1
  have ch328 : CHr Z own_EL s.vm h0 T306.vm T306.heap := CHr.trans ch307 hC306
  have pre329 : ∀ t, Steps p.tables e below (T306.setTop (mkF m 174 #[.val (.int p1), .val (.int p2), .val (.ref x22), .val (.ref x30), .val (.ref u75), .val (.ref m75), .val (.int (Int32.ofNat cs22.length)), .val (.int (Int32.ofNat cs30.length))] [(.int (1 : Int32))])) t → Steps p.tables e below (s₁.setTop (entryFrame m #[(.int p1), (.int p2)] maxLocals)) t := fun t kt => pre305 t (st306.trans kt)
  have pre330 : ∀ t, Steps p.tables e below (T306.setTop (mkF m 183 #[.val (.int p1), .val (.int p2), .val (.ref x22), .val (.ref x30), .val (.ref u75), .val (.ref m75), .val (.int (Int32.ofNat cs22.length)), .val (.int (Int32.ofNat cs30.length))] [(.int (9 : Int32)), (.ref x30), (.ref x22), (.ref m75)])) t → Steps p.tables e below (s₁.setTop (entryFrame m #[(.int p1), (.int p2)] maxLocals)) t := fun t kt => pre329 t (by
    refine XS.ifNo X306r.here hx rfl (hb hby at_174) rfl ((if0 _ _).trans (feq (by decide : ¬ ((1 : Int32) = (0 : Int32)))).1) ?_
    show Steps p.tables e below (T306.setTop (mkF m 177 #[.val (.int p1), .val (.int p2), .val (.ref x22), .val (.ref x30), .val (.ref u75), .val (.ref m75), .val (.int (Int32.ofNat cs22.length)), .val (.int (Int32.ofNat cs30.length))] [])) _
    refine XS.aload X306r.here hx rfl (hb hby at_177) rfl rfl ?_
    show Steps p.tables e below (T306.setTop (mkF m 179 #[.val (.int p1), .val (.int p2), .val (.ref x22), .val (.ref x30), .val (.ref u75), .val (.ref m75), .val (.int (Int32.ofNat cs22.length)), .val (.int (Int32.ofNat cs30.length))] [(.ref m75)])) _
    refine XS.aloadN X306r.here hx rfl (hb hby at_179) rfl rfl ?_
    show Steps p.tables e below (T306.setTop (mkF m 180 #[.val (.int p1), .val (.int p2), .val (.ref x22), .val (.ref x30), .val (.ref u75), .val (.ref m75), .val (.int (Int32.ofNat cs22.length)), .val (.int (Int32.ofNat cs30.length))] [(.ref x22), (.ref m75)])) _
    refine XS.aloadN X306r.here hx rfl (hb hby at_180) rfl rfl ?_
    show Steps p.tables e below (T306.setTop (mkF m 181 #[.val (.int p1), .val (.int p2), .val (.ref x22), .val (.ref x30), .val (.ref u75), .val (.ref m75), .val (.int (Int32.ofNat cs22.length)), .val (.int (Int32.ofNat cs30.length))] [(.ref x30), (.ref x22), (.ref m75)])) _
    refine XS.bipush X306r.here hx rfl (hb hby at_181) ?_
    show Steps p.tables e below (T306.setTop (mkF m 183 #[.val (.int p1), .val (.int p2), .val (.ref x22), .val (.ref x30), .val (.ref u75), .val (.ref m75), .val (.int (Int32.ofNat cs22.length)), .val (.int (Int32.ofNat cs30.length))] [(.int (9 : Int32)), (.ref x30), (.ref x22), (.ref m75)])) _
    exact kt)
  have sf332 : ∀ y ∈ ([] : List Addr), Safe Z own_EL T306.vm T306.heap y := sf0
  have ch332 : CHr Z own_EL s.vm h0 T306.vm T306.heap := CHr.trans ch328 (CHr.keep (Keep.refl T306.heap []) sf332 (ch328).1)
  obtain ⟨_, _, ⟨T331, L331, k331, n331⟩, -, X331, hS331, hgr331, ⟨Lc331, hQ331, l331, y331, z331, hC331⟩, st331⟩ := callSS X306r hx (y := (⟨"kakehashi/cli/OptionMissingPinLaw", "ok", "(Ljava/lang/String;Ljava/lang/String;Ljava/lang/String;I)Z"⟩ : MethodName)) hO306 (mvT hZ306 (hw _ (List.mem_of_getElem? (i := 225) rfl))) (mvT hZ306 (hw _ (List.mem_of_getElem? (i := 226) rfl))) (mvT hZ306 (hw _ (List.mem_of_getElem? (i := 2) rfl))) (mvT hZ306 (hw _ (List.mem_of_getElem? (i := 227) rfl))) (by decide) (backOfSH (s := s) (vm0 := T306.vm) (W := 0) (rmOk l Z a0 hw [] m75 x22 x30 t75 t22 t30 _ _ _ cs22 cs30 9 (9 : Int32) z0 fm T306.heap n0 Zf327 f323 f324 f325 f326 f310 f312 f311 f313 f314 f316 f315 f317 hl22 hl30 lat22 lat30 rfl (by decide) f309 S0 hz S1 hfm) hZ306 (hw _ (List.mem_of_getElem? (i := 227) rfl)) (hw _ (List.mem_of_getElem? (i := 2) rfl)) (by decide) (by decide) (own_EW hw) (ch332).1) (g := (mkF m 183 #[.val (.int p1), .val (.int p2), .val (.ref x22), .val (.ref x30), .val (.ref u75), .val (.ref m75), .val (.int (Int32.ofNat cs22.length)), .val (.int (Int32.ofNat cs30.length))] [(.int (9 : Int32)), (.ref x30), (.ref x22), (.ref m75)])) rfl (by rw [hml]; rfl) (argsL := [(.ref m75), (.ref x22), (.ref x30), (.int (9 : Int32))]) (rest := []) (lenOf pd__28Ljava_2flang_2fString_3bLjava_2flang_2fString_3bLjava_2flang_2fString_3bI_29Z rfl) rfl (by show 2 * 0 + _ ≤ _; exact Nat.le_of_eq rfl) (hb hby at_183) (fun _ _ => ⟨rfl, rfl, (by decide : 35 + 2 ≤ _), (by decide : 3137 + 32 ≤ _)⟩)
  dsimp only [Pt.U, Pt.locs, Pt.cells, Pt.slots] at X331 l331 y331 z331 st331 hQ331 hC331
  subst l331 y331 z331
  dsimp only [Pt.U] at hS331 hgr331
  obtain ⟨X331r, hS331r, hZ331, hO331⟩ := rebS hS306r (Nat.le_refl _) X331 hS331 hgr331 hZ306 hO306
  obtain ⟨rfl, N331q, K331⟩ := hQ331
  have N331 := Fr.app N306 N331q
  have f333 := ((Keep.refl T306.heap [])).trans K331 (own_all0 )
  have f334 := (f309).keep K331 (own_all0 )
  have f335 := (f310).keep K331
  have f336 := (f311).keep K331 own_notin0
  have f337 := (f312).keep K331 own_notin0
  have f338 := (f313).keep K331 own_notin0
  have f339 := (f314).keep K331
  have f340 := (f315).keep K331 own_notin0
  have f341 := (f316).keep K331 own_notin0
  have f342 := (f317).keep K331 own_notin0
  have f343 := (f318).keep K331
  have f344 := (f319).keep K331 own_notin0
  have f345 := (f320).keep K331 own_notin0
  have f346 := (f321).keep K331
  have f347 := (f322).keep K331 own_notin0
  have f348 := (f323).keep K331
  have f349 := (f324).keep K331 own_notin0
  have f350 := (f325).keep K331 own_notin0
  have f351 := (f326).keep K331 own_notin0
  have Zf352 : n0 ≤ T331.heap.size := Nat.le_trans Zf327 (K331).1
  have ch353 : CHr Z own_EL s.vm h0 T331.vm T331.heap := CHr.trans ch332 hC331
  have pre354 : ∀ t, Steps p.tables e below (T331.setTop (mkF m 186 #[.val (.int p1), .val (.int p2), .val (.ref x22), .val (.ref x30), .val (.ref u75), .val (.ref m75), .val (.int (Int32.ofNat cs22.length)), .val (.int (Int32.ofNat cs30.length))] [(.int (1 : Int32))])) t → Steps p.tables e below (s₁.setTop (entryFrame m #[(.int p1), (.int p2)] maxLocals)) t := fun t kt => pre330 t (st331.trans kt)
  have pre355 : ∀ t, Steps p.tables e below (T331.setTop (mkF m 195 #[.val (.int p1), .val (.int p2), .val (.ref x22), .val (.ref x30), .val (.ref u75), .val (.ref m75), .val (.int (Int32.ofNat cs22.length)), .val (.int (Int32.ofNat cs30.length))] [(.int (10 : Int32)), (.ref x30), (.ref x22), (.ref m75)])) t → Steps p.tables e below (s₁.setTop (entryFrame m #[(.int p1), (.int p2)] maxLocals)) t := fun t kt => pre354 t (by
    refine XS.ifNo X331r.here hx rfl (hb hby at_186) rfl ((if0 _ _).trans (feq (by decide : ¬ ((1 : Int32) = (0 : Int32)))).1) ?_
    show Steps p.tables e below (T331.setTop (mkF m 189 #[.val (.int p1), .val (.int p2), .val (.ref x22), .val (.ref x30), .val (.ref u75), .val (.ref m75), .val (.int (Int32.ofNat cs22.length)), .val (.int (Int32.ofNat cs30.length))] [])) _
    refine XS.aload X331r.here hx rfl (hb hby at_189) rfl rfl ?_
    show Steps p.tables e below (T331.setTop (mkF m 191 #[.val (.int p1), .val (.int p2), .val (.ref x22), .val (.ref x30), .val (.ref u75), .val (.ref m75), .val (.int (Int32.ofNat cs22.length)), .val (.int (Int32.ofNat cs30.length))] [(.ref m75)])) _
    refine XS.aloadN X331r.here hx rfl (hb hby at_191) rfl rfl ?_
    show Steps p.tables e below (T331.setTop (mkF m 192 #[.val (.int p1), .val (.int p2), .val (.ref x22), .val (.ref x30), .val (.ref u75), .val (.ref m75), .val (.int (Int32.ofNat cs22.length)), .val (.int (Int32.ofNat cs30.length))] [(.ref x22), (.ref m75)])) _
    refine XS.aloadN X331r.here hx rfl (hb hby at_192) rfl rfl ?_
    show Steps p.tables e below (T331.setTop (mkF m 193 #[.val (.int p1), .val (.int p2), .val (.ref x22), .val (.ref x30), .val (.ref u75), .val (.ref m75), .val (.int (Int32.ofNat cs22.length)), .val (.int (Int32.ofNat cs30.length))] [(.ref x30), (.ref x22), (.ref m75)])) _
    refine XS.bipush X331r.here hx rfl (hb hby at_193) ?_
    show Steps p.tables e below (T331.setTop (mkF m 195 #[.val (.int p1), .val (.int p2), .val (.ref x22), .val (.ref x30), .val (.ref u75), .val (.ref m75), .val (.int (Int32.ofNat cs22.length)), .val (.int (Int32.ofNat cs30.length))] [(.int (10 : Int32)), (.ref x30), (.ref x22), (.ref m75)])) _
    exact kt)
  have sf357 : ∀ y ∈ ([] : List Addr), Safe Z own_EL T331.vm T331.heap y := sf0
  have ch357 : CHr Z own_EL s.vm h0 T331.vm T331.heap := CHr.trans ch353 (CHr.keep (Keep.refl T331.heap []) sf357 (ch353).1)
  obtain ⟨_, _, ⟨T356, L356, k356, n356⟩, -, X356, hS356, hgr356, ⟨Lc356, hQ356, l356, y356, z356, hC356⟩, st356⟩ := callSS X331r hx (y := (⟨"kakehashi/cli/OptionMissingPinLaw", "ok", "(Ljava/lang/String;Ljava/lang/String;Ljava/lang/String;I)Z"⟩ : MethodName)) hO331 (mvT hZ331 (hw _ (List.mem_of_getElem? (i := 225) rfl))) (mvT hZ331 (hw _ (List.mem_of_getElem? (i := 226) rfl))) (mvT hZ331 (hw _ (List.mem_of_getElem? (i := 2) rfl))) (mvT hZ331 (hw _ (List.mem_of_getElem? (i := 227) rfl))) (by decide) (backOfSH (s := s) (vm0 := T331.vm) (W := 0) (rmOl l Z a0 hw [] m75 x22 x30 t75 t22 t30 _ _ _ cs22 cs30 10 (10 : Int32) z0 fm T331.heap n0 Zf352 f348 f349 f350 f351 f335 f337 f336 f338 f339 f341 f340 f342 hl22 hl30 lat22 lat30 rfl (by decide) f334 S0 hz S1 hfm (by decide)) hZ331 (hw _ (List.mem_of_getElem? (i := 227) rfl)) (hw _ (List.mem_of_getElem? (i := 2) rfl)) (by decide) (by decide) (own_EW hw) (ch357).1) (g := (mkF m 195 #[.val (.int p1), .val (.int p2), .val (.ref x22), .val (.ref x30), .val (.ref u75), .val (.ref m75), .val (.int (Int32.ofNat cs22.length)), .val (.int (Int32.ofNat cs30.length))] [(.int (10 : Int32)), (.ref x30), (.ref x22), (.ref m75)])) rfl (by rw [hml]; rfl) (argsL := [(.ref m75), (.ref x22), (.ref x30), (.int (10 : Int32))]) (rest := []) (lenOf pd__28Ljava_2flang_2fString_3bLjava_2flang_2fString_3bLjava_2flang_2fString_3bI_29Z rfl) rfl (by show 2 * 0 + _ ≤ _; exact Nat.le_of_eq rfl) (hb hby at_195) (fun _ _ => ⟨rfl, rfl, (by decide : 37 + 0 ≤ _), (by decide : 3169 + 0 ≤ _)⟩)
  dsimp only [Pt.U, Pt.locs, Pt.cells, Pt.slots] at X356 l356 y356 z356 st356 hQ356 hC356
  subst l356 y356 z356
  dsimp only [Pt.U] at hS356 hgr356
  obtain ⟨X356r, hS356r, hZ356, hO356⟩ := rebS hS331r (Nat.le_refl _) X356 hS356 hgr356 hZ331 hO331
  obtain ⟨rfl, N356q, K356⟩ := hQ356
  have N356 := Fr.app N331 N356q
  have f358 := ((Keep.refl T331.heap [])).trans K356 (own_all0 )
  have f359 := (f334).keep K356 (own_all0 )
  have f360 := (f335).keep K356
  have f361 := (f336).keep K356 own_notin0
  have f362 := (f337).keep K356 own_notin0
  have f363 := (f338).keep K356 own_notin0
  have f364 := (f339).keep K356
  have f365 := (f340).keep K356 own_notin0
  have f366 := (f341).keep K356 own_notin0
  have f367 := (f342).keep K356 own_notin0
  have f368 := (f343).keep K356
  have f369 := (f344).keep K356 own_notin0
  have f370 := (f345).keep K356 own_notin0
  have f371 := (f346).keep K356
  have f372 := (f347).keep K356 own_notin0
  have f373 := (f348).keep K356
  have f374 := (f349).keep K356 own_notin0
  have f375 := (f350).keep K356 own_notin0
  have f376 := (f351).keep K356 own_notin0
  have Zf377 : n0 ≤ T356.heap.size := Nat.le_trans Zf352 (K356).1
  have ch378 : CHr Z own_EL s.vm h0 T356.vm T356.heap := CHr.trans ch357 hC356
  have pre379 : ∀ t, Steps p.tables e below (T356.setTop (mkF m 198 #[.val (.int p1), .val (.int p2), .val (.ref x22), .val (.ref x30), .val (.ref u75), .val (.ref m75), .val (.int (Int32.ofNat cs22.length)), .val (.int (Int32.ofNat cs30.length))] [(.int (1 : Int32))])) t → Steps p.tables e below (s₁.setTop (entryFrame m #[(.int p1), (.int p2)] maxLocals)) t := fun t kt => pre355 t (st356.trans kt)
  have pre380 : ∀ t, Steps p.tables e below (T356.setTop (mkF m 207 #[.val (.int p1), .val (.int p2), .val (.ref x22), .val (.ref x30), .val (.ref u75), .val (.ref m75), .val (.int (Int32.ofNat cs22.length)), .val (.int (Int32.ofNat cs30.length))] [(.int (11 : Int32)), (.ref x30), (.ref x22), (.ref m75)])) t → Steps p.tables e below (s₁.setTop (entryFrame m #[(.int p1), (.int p2)] maxLocals)) t := fun t kt => pre379 t (by
    refine XS.ifNo X356r.here hx rfl (hb hby at_198) rfl ((if0 _ _).trans (feq (by decide : ¬ ((1 : Int32) = (0 : Int32)))).1) ?_
    show Steps p.tables e below (T356.setTop (mkF m 201 #[.val (.int p1), .val (.int p2), .val (.ref x22), .val (.ref x30), .val (.ref u75), .val (.ref m75), .val (.int (Int32.ofNat cs22.length)), .val (.int (Int32.ofNat cs30.length))] [])) _
    refine XS.aload X356r.here hx rfl (hb hby at_201) rfl rfl ?_
    show Steps p.tables e below (T356.setTop (mkF m 203 #[.val (.int p1), .val (.int p2), .val (.ref x22), .val (.ref x30), .val (.ref u75), .val (.ref m75), .val (.int (Int32.ofNat cs22.length)), .val (.int (Int32.ofNat cs30.length))] [(.ref m75)])) _
    refine XS.aloadN X356r.here hx rfl (hb hby at_203) rfl rfl ?_
    show Steps p.tables e below (T356.setTop (mkF m 204 #[.val (.int p1), .val (.int p2), .val (.ref x22), .val (.ref x30), .val (.ref u75), .val (.ref m75), .val (.int (Int32.ofNat cs22.length)), .val (.int (Int32.ofNat cs30.length))] [(.ref x22), (.ref m75)])) _
    refine XS.aloadN X356r.here hx rfl (hb hby at_204) rfl rfl ?_
    show Steps p.tables e below (T356.setTop (mkF m 205 #[.val (.int p1), .val (.int p2), .val (.ref x22), .val (.ref x30), .val (.ref u75), .val (.ref m75), .val (.int (Int32.ofNat cs22.length)), .val (.int (Int32.ofNat cs30.length))] [(.ref x30), (.ref x22), (.ref m75)])) _
    refine XS.bipush X356r.here hx rfl (hb hby at_205) ?_
    show Steps p.tables e below (T356.setTop (mkF m 207 #[.val (.int p1), .val (.int p2), .val (.ref x22), .val (.ref x30), .val (.ref u75), .val (.ref m75), .val (.int (Int32.ofNat cs22.length)), .val (.int (Int32.ofNat cs30.length))] [(.int (11 : Int32)), (.ref x30), (.ref x22), (.ref m75)])) _
    exact kt)
  have sf382 : ∀ y ∈ ([] : List Addr), Safe Z own_EL T356.vm T356.heap y := sf0
  have ch382 : CHr Z own_EL s.vm h0 T356.vm T356.heap := CHr.trans ch378 (CHr.keep (Keep.refl T356.heap []) sf382 (ch378).1)
  obtain ⟨_, _, ⟨T381, L381, k381, n381⟩, -, X381, hS381, hgr381, ⟨Lc381, hQ381, l381, y381, z381, hC381⟩, st381⟩ := callSS X356r hx (y := (⟨"kakehashi/cli/OptionMissingPinLaw", "ok", "(Ljava/lang/String;Ljava/lang/String;Ljava/lang/String;I)Z"⟩ : MethodName)) hO356 (mvT hZ356 (hw _ (List.mem_of_getElem? (i := 225) rfl))) (mvT hZ356 (hw _ (List.mem_of_getElem? (i := 226) rfl))) (mvT hZ356 (hw _ (List.mem_of_getElem? (i := 2) rfl))) (mvT hZ356 (hw _ (List.mem_of_getElem? (i := 227) rfl))) (by decide) (backOfSH (s := s) (vm0 := T356.vm) (W := 0) (rmOl l Z a0 hw [] m75 x22 x30 t75 t22 t30 _ _ _ cs22 cs30 11 (11 : Int32) z0 fm T356.heap n0 Zf377 f373 f374 f375 f376 f360 f362 f361 f363 f364 f366 f365 f367 hl22 hl30 lat22 lat30 rfl (by decide) f359 S0 hz S1 hfm (by decide)) hZ356 (hw _ (List.mem_of_getElem? (i := 227) rfl)) (hw _ (List.mem_of_getElem? (i := 2) rfl)) (by decide) (by decide) (own_EW hw) (ch382).1) (g := (mkF m 207 #[.val (.int p1), .val (.int p2), .val (.ref x22), .val (.ref x30), .val (.ref u75), .val (.ref m75), .val (.int (Int32.ofNat cs22.length)), .val (.int (Int32.ofNat cs30.length))] [(.int (11 : Int32)), (.ref x30), (.ref x22), (.ref m75)])) rfl (by rw [hml]; rfl) (argsL := [(.ref m75), (.ref x22), (.ref x30), (.int (11 : Int32))]) (rest := []) (lenOf pd__28Ljava_2flang_2fString_3bLjava_2flang_2fString_3bLjava_2flang_2fString_3bI_29Z rfl) rfl (by show 2 * 0 + _ ≤ _; exact Nat.le_of_eq rfl) (hb hby at_207) (fun _ _ => ⟨rfl, rfl, (by decide : 37 + 0 ≤ _), (by decide : 3169 + 0 ≤ _)⟩)
  dsimp only [Pt.U, Pt.locs, Pt.cells, Pt.slots] at X381 l381 y381 z381 st381 hQ381 hC381
  subst l381 y381 z381
  dsimp only [Pt.U] at hS381 hgr381
  obtain ⟨X381r, hS381r, hZ381, hO381⟩ := rebS hS356r (Nat.le_refl _) X381 hS381 hgr381 hZ356 hO356
  obtain ⟨rfl, N381q, K381⟩ := hQ381
  have N381 := Fr.app N356 N381q
  have f383 := ((Keep.refl T356.heap [])).trans K381 (own_all0 )
  have f384 := (f359).keep K381 (own_all0 )
  have f385 := (f360).keep K381
  have f386 := (f361).keep K381 own_notin0
  have f387 := (f362).keep K381 own_notin0
  have f388 := (f363).keep K381 own_notin0
  have f389 := (f364).keep K381
  have f390 := (f365).keep K381 own_notin0
  have f391 := (f366).keep K381 own_notin0
  have f392 := (f367).keep K381 own_notin0
  have f393 := (f368).keep K381
  have f394 := (f369).keep K381 own_notin0
  have f395 := (f370).keep K381 own_notin0
  have f396 := (f371).keep K381
  have f397 := (f372).keep K381 own_notin0
  have f398 := (f373).keep K381
  have f399 := (f374).keep K381 own_notin0
  have f400 := (f375).keep K381 own_notin0
  have f401 := (f376).keep K381 own_notin0
  have Zf402 : n0 ≤ T381.heap.size := Nat.le_trans Zf377 (K381).1
  have ch403 : CHr Z own_EL s.vm h0 T381.vm T381.heap := CHr.trans ch382 hC381
  have pre404 : ∀ t, Steps p.tables e below (T381.setTop (mkF m 210 #[.val (.int p1), .val (.int p2), .val (.ref x22), .val (.ref x30), .val (.ref u75), .val (.ref m75), .val (.int (Int32.ofNat cs22.length)), .val (.int (Int32.ofNat cs30.length))] [(.int (1 : Int32))])) t → Steps p.tables e below (s₁.setTop (entryFrame m #[(.int p1), (.int p2)] maxLocals)) t := fun t kt => pre380 t (st381.trans kt)
  have pre405 : ∀ t, Steps p.tables e below (T381.setTop (mkF m 219 #[.val (.int p1), .val (.int p2), .val (.ref x22), .val (.ref x30), .val (.ref u75), .val (.ref m75), .val (.int (Int32.ofNat cs22.length)), .val (.int (Int32.ofNat cs30.length))] [(.int (12 : Int32)), (.ref x30), (.ref x22), (.ref m75)])) t → Steps p.tables e below (s₁.setTop (entryFrame m #[(.int p1), (.int p2)] maxLocals)) t := fun t kt => pre404 t (by
    refine XS.ifNo X381r.here hx rfl (hb hby at_210) rfl ((if0 _ _).trans (feq (by decide : ¬ ((1 : Int32) = (0 : Int32)))).1) ?_
    show Steps p.tables e below (T381.setTop (mkF m 213 #[.val (.int p1), .val (.int p2), .val (.ref x22), .val (.ref x30), .val (.ref u75), .val (.ref m75), .val (.int (Int32.ofNat cs22.length)), .val (.int (Int32.ofNat cs30.length))] [])) _
    refine XS.aload X381r.here hx rfl (hb hby at_213) rfl rfl ?_
    show Steps p.tables e below (T381.setTop (mkF m 215 #[.val (.int p1), .val (.int p2), .val (.ref x22), .val (.ref x30), .val (.ref u75), .val (.ref m75), .val (.int (Int32.ofNat cs22.length)), .val (.int (Int32.ofNat cs30.length))] [(.ref m75)])) _
    refine XS.aloadN X381r.here hx rfl (hb hby at_215) rfl rfl ?_
    show Steps p.tables e below (T381.setTop (mkF m 216 #[.val (.int p1), .val (.int p2), .val (.ref x22), .val (.ref x30), .val (.ref u75), .val (.ref m75), .val (.int (Int32.ofNat cs22.length)), .val (.int (Int32.ofNat cs30.length))] [(.ref x22), (.ref m75)])) _
    refine XS.aloadN X381r.here hx rfl (hb hby at_216) rfl rfl ?_
    show Steps p.tables e below (T381.setTop (mkF m 217 #[.val (.int p1), .val (.int p2), .val (.ref x22), .val (.ref x30), .val (.ref u75), .val (.ref m75), .val (.int (Int32.ofNat cs22.length)), .val (.int (Int32.ofNat cs30.length))] [(.ref x30), (.ref x22), (.ref m75)])) _
    refine XS.bipush X381r.here hx rfl (hb hby at_217) ?_
    show Steps p.tables e below (T381.setTop (mkF m 219 #[.val (.int p1), .val (.int p2), .val (.ref x22), .val (.ref x30), .val (.ref u75), .val (.ref m75), .val (.int (Int32.ofNat cs22.length)), .val (.int (Int32.ofNat cs30.length))] [(.int (12 : Int32)), (.ref x30), (.ref x22), (.ref m75)])) _
    exact kt)
  have sf407 : ∀ y ∈ ([] : List Addr), Safe Z own_EL T381.vm T381.heap y := sf0
  have ch407 : CHr Z own_EL s.vm h0 T381.vm T381.heap := CHr.trans ch403 (CHr.keep (Keep.refl T381.heap []) sf407 (ch403).1)
  obtain ⟨_, _, ⟨T406, L406, k406, n406⟩, -, X406, hS406, hgr406, ⟨Lc406, hQ406, l406, y406, z406, hC406⟩, st406⟩ := callSS X381r hx (y := (⟨"kakehashi/cli/OptionMissingPinLaw", "ok", "(Ljava/lang/String;Ljava/lang/String;Ljava/lang/String;I)Z"⟩ : MethodName)) hO381 (mvT hZ381 (hw _ (List.mem_of_getElem? (i := 225) rfl))) (mvT hZ381 (hw _ (List.mem_of_getElem? (i := 226) rfl))) (mvT hZ381 (hw _ (List.mem_of_getElem? (i := 2) rfl))) (mvT hZ381 (hw _ (List.mem_of_getElem? (i := 227) rfl))) (by decide) (backOfSH (s := s) (vm0 := T381.vm) (W := 0) (rmOl l Z a0 hw [] m75 x22 x30 t75 t22 t30 _ _ _ cs22 cs30 12 (12 : Int32) z0 fm T381.heap n0 Zf402 f398 f399 f400 f401 f385 f387 f386 f388 f389 f391 f390 f392 hl22 hl30 lat22 lat30 rfl (by decide) f384 S0 hz S1 hfm (by decide)) hZ381 (hw _ (List.mem_of_getElem? (i := 227) rfl)) (hw _ (List.mem_of_getElem? (i := 2) rfl)) (by decide) (by decide) (own_EW hw) (ch407).1) (g := (mkF m 219 #[.val (.int p1), .val (.int p2), .val (.ref x22), .val (.ref x30), .val (.ref u75), .val (.ref m75), .val (.int (Int32.ofNat cs22.length)), .val (.int (Int32.ofNat cs30.length))] [(.int (12 : Int32)), (.ref x30), (.ref x22), (.ref m75)])) rfl (by rw [hml]; rfl) (argsL := [(.ref m75), (.ref x22), (.ref x30), (.int (12 : Int32))]) (rest := []) (lenOf pd__28Ljava_2flang_2fString_3bLjava_2flang_2fString_3bLjava_2flang_2fString_3bI_29Z rfl) rfl (by show 2 * 0 + _ ≤ _; exact Nat.le_of_eq rfl) (hb hby at_219) (fun _ _ => ⟨rfl, rfl, (by decide : 37 + 0 ≤ _), (by decide : 3169 + 0 ≤ _)⟩)
  dsimp only [Pt.U, Pt.locs, Pt.cells, Pt.slots] at X406 l406 y406 z406 st406 hQ406 hC406
  subst l406 y406 z406
  dsimp only [Pt.U] at hS406 hgr406
  obtain ⟨X406r, hS406r, hZ406, hO406⟩ := rebS hS381r (Nat.le_refl _) X406 hS406 hgr406 hZ381 hO381
  obtain ⟨rfl, N406q, K406⟩ := hQ406
  have N406 := Fr.app N381 N406q
  have f408 := ((Keep.refl T381.heap [])).trans K406 (own_all0 )
  have f409 := (f384).keep K406 (own_all0 )
  have f410 := (f385).keep K406
  have f411 := (f386).keep K406 own_notin0
  have f412 := (f387).keep K406 own_notin0
  have f413 := (f388).keep K406 own_notin0
  have f414 := (f389).keep K406
  have f415 := (f390).keep K406 own_notin0
  have f416 := (f391).keep K406 own_notin0
  have f417 := (f392).keep K406 own_notin0
  have f418 := (f393).keep K406
  have f419 := (f394).keep K406 own_notin0
  have f420 := (f395).keep K406 own_notin0
  have f421 := (f396).keep K406
  have f422 := (f397).keep K406 own_notin0
  have f423 := (f398).keep K406
  have f424 := (f399).keep K406 own_notin0
  have f425 := (f400).keep K406 own_notin0
  have f426 := (f401).keep K406 own_notin0
  have Zf427 : n0 ≤ T406.heap.size := Nat.le_trans Zf402 (K406).1
  have ch428 : CHr Z own_EL s.vm h0 T406.vm T406.heap := CHr.trans ch407 hC406
  have pre429 : ∀ t, Steps p.tables e below (T406.setTop (mkF m 222 #[.val (.int p1), .val (.int p2), .val (.ref x22), .val (.ref x30), .val (.ref u75), .val (.ref m75), .val (.int (Int32.ofNat cs22.length)), .val (.int (Int32.ofNat cs30.length))] [(.int (1 : Int32))])) t → Steps p.tables e below (s₁.setTop (entryFrame m #[(.int p1), (.int p2)] maxLocals)) t := fun t kt => pre405 t (st406.trans kt)
  have pre430 : ∀ t, Steps p.tables e below (T406.setTop (mkF m 230 #[.val (.int p1), .val (.int p2), .val (.ref x22), .val (.ref x30), .val (.ref u75), .val (.ref m75), .val (.int (Int32.ofNat cs22.length)), .val (.int (Int32.ofNat cs30.length))] [(.int (1 : Int32))])) t → Steps p.tables e below (s₁.setTop (entryFrame m #[(.int p1), (.int p2)] maxLocals)) t := fun t kt => pre429 t (by
    refine XS.ifNo X406r.here hx rfl (hb hby at_222) rfl ((if0 _ _).trans (feq (by decide : ¬ ((1 : Int32) = (0 : Int32)))).1) ?_
    show Steps p.tables e below (T406.setTop (mkF m 225 #[.val (.int p1), .val (.int p2), .val (.ref x22), .val (.ref x30), .val (.ref u75), .val (.ref m75), .val (.int (Int32.ofNat cs22.length)), .val (.int (Int32.ofNat cs30.length))] [])) _
    refine XS.iconst X406r.here hx rfl (hb hby at_225) ?_
    show Steps p.tables e below (T406.setTop (mkF m 226 #[.val (.int p1), .val (.int p2), .val (.ref x22), .val (.ref x30), .val (.ref u75), .val (.ref m75), .val (.int (Int32.ofNat cs22.length)), .val (.int (Int32.ofNat cs30.length))] [(.int (1 : Int32))])) _
    refine XS.goto X406r.here hx rfl (pc0 := 226) (pc' := 230) rfl (hb hby at_226) (by decide) (by decide) ?_
    show Steps p.tables e below (T406.setTop (mkF m 230 #[.val (.int p1), .val (.int p2), .val (.ref x22), .val (.ref x30), .val (.ref u75), .val (.ref m75), .val (.int (Int32.ofNat cs22.length)), .val (.int (Int32.ofNat cs30.length))] [(.int (1 : Int32))])) _
    exact kt)
  have sf432 : ∀ y ∈ ([] : List Addr), Safe Z own_EL T406.vm T406.heap y := sf0
  have ch432 : CHr Z own_EL s.vm h0 T406.vm T406.heap := CHr.trans ch428 (CHr.keep (Keep.refl T406.heap []) sf432 (ch428).1)
  have hCf : CHr Z own_EL s.vm s.heap T406.vm T406.heap := by
    rw [hh]
    exact CHr.trans ch432 (CHv.at (s := s) (vm0 := T406.vm) X406r hZ406 (own_EW hw) (ch432).1)
  obtain ⟨fs, hr, hrun, hended, hRE⟩ := X406r.leaveW hS406r ((Nat.le_refl _)) (v := (some (.int (1 : Int32)))) (fun h => by rw [Bd.returns] at h; cases h)
  refine ⟨_, _, pre430 _ ?_, hrun, hended, _, _, rfl, ?_, hCf, hRE.1, hRE.2.1, hRE.2.2.1, hRE.2.2.2.mono (by decide) (by decide)⟩
  · exact retN X406r hx (t := .boolean) Bd.returns (by simp) (hb hby at_230) hr
  · show Q0 Z  h0 n0 _ T406.heap _
    exact ⟨rfl, N406⟩
set_option maxRecDepth 65536 in
set_option maxHeartbeats 40000000 in
theorem comes_1 {Post : Tables → Env → Array Value → State → Outcome → State → Prop} (hpost : ∀ tb e args s v u, (limb_1_1.after args s (.returned v) u = true ∧ limb_1_2.after args s (.returned v) u = true ∧ True) → ReturnedEndW s (.returned v) u (Jvm.fieldLocs frame_1_writes args s ++ Jvm.arrayLocs frame_1_arrays args s ++ Jvm.staticLocs frame_1_statics s) 40 8832 → Post tb e args s (.returned v) u) :
    ArmFor flags0 classFile x code maxLocals ret World_1 tables_1 room_1 Calls_1 rest_1 Pre_1 Post := by
  intro l hfl _ _ p e ha hc hk s m args below hf hA hF happ hP
  obtain ⟨hcalls, hrest, hpre⟩ := hP
  obtain ⟨-, -, -, hnamed, -, -, -, hat⟩ := (Spec.applies_iff hf).mp happ
  obtain ⟨hg, hn⟩ := and_e (Cond.before_iff.mp (show (Jvm.Cond.and given_1 narrow_1).before args s = true from hpre))
  obtain ⟨gc, ga⟩ := and_e hg
  obtain ⟨g0, r0⟩ := and_e ga
  obtain ⟨w0, w1, rfl⟩ : ∃ w0 w1 : Value, args = #[w0, w1] := by
    have hs : args.size = 2 := by simpa [Cond.value, given_1] using gc
    obtain ⟨L⟩ := args
    match L, hs with
    | [w0, w1], _ => exact ⟨w0, w1, rfl⟩
  have hw := fun d (hd : d ∈ tables_1) => atoms_spec (ws := Jvm.Cond.code x code maxLocals ret :: tables_1) hat d (List.mem_cons_of_mem _ hd)
  have hfit : Fit s := fun {y c} hc i hi => by
    obtain ⟨ha, rfl⟩ := Array.getElem?_eq_some_iff.mp hc
    have q := List.all_eq_true.mp ((Array.all_eq_true_iff_forall_mem.mp hF) _ (Array.getElem_mem ha)) i (List.mem_range.mpr hi)
    simpa [Array.getElem?_eq_getElem hi] using q
  obtain ⟨hsets, hown0⟩ := atoms_of _ (rest_1_c_eq ▸ (show rest_1_c.before _ s = true from hrest))
  have hr0 := Cond.before_iff.mp hown0
  obtain ⟨i0, ei0⟩ := is_v g0
  obtain rfl : w0 = (.int i0) := Option.some.inj ei0
  obtain ⟨i1, ei1⟩ := is_v r0
  obtain rfl : w1 = (.int i1) := Option.some.inj ei1
  obtain ⟨z0, ez0⟩ := is_v (Cond.before_iff.mp (hsets _ (List.mem_of_getElem? (i := 1) rfl)))
  have S0 := Sta.start ez0 (Or.inl (hsets _ (List.mem_of_getElem? (i := 0) rfl)))
  have hz : ¬ z0 = (0 : Int32) := fun q => by
    have w2 := not_v (Cond.before_iff.mp (hsets _ (List.mem_of_getElem? (i := 2) rfl)))
    subst q
    rw [eq_i ez0 (Term.int_eval (0)) rfl] at w2; exact absurd w2 (by decide)
  obtain ⟨fm, efm, hfm⟩ := isR_v (Cond.before_iff.mp (hsets _ (List.mem_of_getElem? (i := 8) rfl)))
  have S1 := Sta.start efm (Or.inl (hsets _ (List.mem_of_getElem? (i := 7) rfl)))
  obtain ⟨ua, eua⟩ := arr_v (Cond.before_iff.mp (hsets _ (List.mem_of_getElem? (i := 17) rfl)))
  have T1 := Sta.start eua (Or.inl (hsets _ (List.mem_of_getElem? (i := 15) rfl)))
  obtain ⟨ub, _, _, _, eub, -⟩ := Cond.exactly_spec (hsets _ (List.mem_of_getElem? (i := 22) rfl))
  have T2 := Sta.start eub (Or.inl (hsets _ (List.mem_of_getElem? (i := 20) rfl)))
  obtain ⟨n, o, h1, h2, h3, _, L, rfl, ⟨rfl, N⟩, -, hq⟩ := rm0 l s _ hw tables_1 i0 i1 z0 ua ub fm s.heap s.heap.size (Nat.le_refl _) (by unfold Launch.stackTraces; rw [hfl]; decide) T1 T2 (OldL.start s) S0 hz S1 hfm p e ha hc hk s m _ below hf ((Spec.applies_iff_loose hf).mp happ).1 ⟨rfl, State.Warmed39.refl s, rfl, CHv.start (own_EW hw) (fun p hp => (show Jvm.Lit.constsHeld own_EL s from hcalls.2.2.1) p hp) (hsets _ (List.mem_of_getElem? (i := 2) rfl)) (hw _ (List.mem_of_getElem? (i := 19) rfl)) (hw _ (List.mem_of_getElem? (i := 5) rfl))⟩ ⟨hcalls.1, hcalls.2.1⟩
  refine ⟨n, _, h1, h2, h3, hpost _ _ _ _ _ _ ⟨Cond.after_iff.mpr rfl, Cond.after_iff.mpr (eq_i res_at (Term.int_eval (1)) rfl), trivial⟩ ⟨hq.1, hq.2.1, hq.2.2.1, (hq.2.2.2.sift fun y hy => Or.inr (N y hy)).mono (by decide) (by decide)⟩⟩
theorem main_1_1 : Claimed_1_1 := comes_1 fun _ _ _ _ _ _ h hF => ⟨h.1, hF⟩
theorem main_1_2 : Claimed_1_2 := comes_1 fun _ _ _ _ _ _ h hF => ⟨h.2.1, hF⟩
end Jvm.Pilot.@@N@@
namespace Jvm.Pilot.@@N@@
open Jvm Jvm.ClassFile Sem Op Lib Jvm.Free Jvm.Stand Jvm.Pilot.@@N@@.Jvm.D
/-! MADE BY PROGRAM (witnessworld.py) out of the Statement's table words and the real class files: 44 classes; the members and pool entries that the words name. The judged class is class 1, her method 1. -/
namespace start1
open Jvm.ClassFile
def u (s : String) : CpInfo := .utf8 (stringToUtf16 s)
/-- a pool by its gaps: so many unusable entries, then the entry; so many at the end -/
def gap : Nat → List CpInfo → List CpInfo
  | 0, r => r
  | n + 1, r => .unusable :: gap n r
def poolList (es : List (Nat × CpInfo)) (last : Nat) : List CpInfo := es.foldr (fun e r => gap e.1 (e.2 :: r)) (gap last [])
def pool (es : List (Nat × CpInfo)) (last : Nat) : Array CpInfo := ⟨poolList es last⟩
def fileOf (pool : Array CpInfo) (this : Nat) (attrs : Array Attribute := #[]) (ms : Array MethodInfo := #[]) (fl : Nat := 33) (sup : Nat := 0) (ifs : Array Nat := #[]) (fds : Array FieldInfo := #[]) : ClassFile where
  minorVersion := 0
  majorVersion := 65
  constantPool := pool
  accessFlags := fl
  thisClass := this
  superClass := sup
  interfaces := ifs
  fields := fds
  methods := ms
  attributes := attrs
def plain (name : String) (sup : Option ClassId) : Class where
  name := name
  kind := .ordinary
  loader := none
  accessFlags := 33
  super := sup
  interfaces := #[]
  cf := none
  fields := #[]
  methods := #[]
  instanceTypes := #[]
  staticTypes := #[]
  resolved := #[]
  callSites := []
  init := .initialized
  statics := none
  mirror := none

def pool0 : Array CpInfo := pool [(5, u "<init>"), (0, u "()V"), (1, .class_ 10), (1, u "java/lang/Object")] 113

def k0c0 : Code := { maxStack := 0, maxLocals := 1, code := object_method_1_code, exceptionTable := #[], attributes := #[] }
def k0m0 : Method := { name := "<init>", desc := "()V", sig := { parameters := [], returnType := none }, accessFlags := 1, code := some k0c0 }
/-- java/lang/Object -/
def k0 : Class := { plain "java/lang/Object" none with
  accessFlags := 33
  interfaces := #[]
  cf := some (fileOf pool0 8 #[] #[{ accessFlags := 1, nameIndex := 5, descriptorIndex := 6, attributes := #[] }] 33 0 #[] #[])
  fields := #[]
  methods := #[k0m0]
  instanceTypes := #[]
  staticTypes := #[]
  resolved := Array.replicate 124 none
  statics := none }

def pool1 : Array CpInfo := pool [(2, .class_ 4), (1, u "java/lang/Object"), (0, u "<init>"), (0, u "()V"), (0, .methodref 8 9), (0, .class_ 10), (0, .nameAndType 11 12), (0, u "kakehashi/cli/OptionMissingPinLaw"), (0, u "make"), (0, u "(I)Ljava/lang/String;"), (0, .class_ 14), (0, u "kakehashi/cli/Arguments$Option"), (0, .methodref 13 16), (0, .nameAndType 5 17), (0, u "(Ljava/lang/String;Ljava/lang/String;)V"), (0, .methodref 13 19), (0, .nameAndType 20 21), (0, u "missing"), (0, u "()Lkakehashi/cli/UsageException;"), (0, .methodref 23 24), (0, .class_ 25), (0, .nameAndType 26 27), (0, u "kakehashi/cli/UsageException"), (0, u "getMessage"), (0, u "()Ljava/lang/String;"), (0, .methodref 29 30), (0, .class_ 31), (0, .nameAndType 32 33), (0, u "java/lang/String"), (0, u "length"), (0, u "()I"), (0, .methodref 8 35), (0, .nameAndType 36 37), (0, u "ok"), (0, u "(Ljava/lang/String;Ljava/lang/String;Ljava/lang/String;I)Z"), (0, .methodref 8 39), (0, .nameAndType 40 41), (0, u "expectedAt"), (0, u "(Ljava/lang/String;Ljava/lang/String;I)I"), (0, .methodref 29 43), (0, .nameAndType 44 45), (0, u "charAt"), (0, u "(I)C"), (0, .string 47), (0, u " needs "), (0, .methodref 29 49), (0, .nameAndType 5 50), (0, u "([C)V"), (2, u "law"), (0, u "(II)Z")] 7

def k1m0 : Method := { name := "<init>", desc := "()V", sig := { parameters := [], returnType := none }, accessFlags := 1, code := none }
def k1c1 : Code := { maxStack := 4, maxLocals := 8, code := code, exceptionTable := #[], attributes := #[] }
def k1m1 : Method := { name := "law", desc := "(II)Z", sig := { parameters := [.int, .int], returnType := some .boolean }, accessFlags := 9, code := some k1c1 }
def k1c2 : Code := { maxStack := 3, maxLocals := 6, code := method_3_code, exceptionTable := #[], attributes := #[] }
def k1m2 : Method := { name := "ok", desc := "(Ljava/lang/String;Ljava/lang/String;Ljava/lang/String;I)Z", sig := { parameters := [(.object "java/lang/String"), (.object "java/lang/String"), (.object "java/lang/String"), .int], returnType := some .boolean }, accessFlags := 10, code := some k1c2 }
def k1c3 : Code := { maxStack := 2, maxLocals := 6, code := method_4_code, exceptionTable := #[], attributes := #[] }
def k1m3 : Method := { name := "expectedAt", desc := "(Ljava/lang/String;Ljava/lang/String;I)I", sig := { parameters := [(.object "java/lang/String"), (.object "java/lang/String"), .int], returnType := some .int }, accessFlags := 10, code := some k1c3 }
def k1c4 : Code := { maxStack := 6, maxLocals := 5, code := method_5_code, exceptionTable := #[], attributes := #[] }
def k1m4 : Method := { name := "make", desc := "(I)Ljava/lang/String;", sig := { parameters := [.int], returnType := some (.object "java/lang/String") }, accessFlags := 10, code := some k1c4 }
/-- kakehashi/cli/OptionMissingPinLaw -/
def k1 : Class := { plain "kakehashi/cli/OptionMissingPinLaw" (some 0) with
  accessFlags := 49
  interfaces := #[]
  cf := some (fileOf pool1 8 #[] #[{ accessFlags := 1, nameIndex := 5, descriptorIndex := 6, attributes := #[] }, { accessFlags := 9, nameIndex := 53, descriptorIndex := 54, attributes := #[] }, { accessFlags := 10, nameIndex := 36, descriptorIndex := 37, attributes := #[] }, { accessFlags := 10, nameIndex := 40, descriptorIndex := 41, attributes := #[] }, { accessFlags := 10, nameIndex := 11, descriptorIndex := 12, attributes := #[] }] 49 2 #[] #[])
  fields := #[]
  methods := #[k1m0, k1m1, k1m2, k1m3, k1m4]
  instanceTypes := #[]
  staticTypes := #[]
  resolved := Array.replicate 62 none
  statics := none }

def pool2 : Array CpInfo := pool [(1, .class_ 2), (0, u "java/io/Serializable"), (0, .class_ 4), (0, u "java/lang/Object")] 2

/-- java/io/Serializable -/
def k2 : Class := { plain "java/io/Serializable" (some 0) with
  accessFlags := 1537
  interfaces := #[]
  cf := some (fileOf pool2 1 #[] #[] 1537 3 #[] #[])
  fields := #[]
  methods := #[]
  instanceTypes := #[]
  staticTypes := #[]
  resolved := Array.replicate 7 none
  statics := none }

def pool3 : Array CpInfo := pool [(1, .class_ 2), (0, u "java/lang/Comparable"), (0, .class_ 4), (0, u "java/lang/Object")] 7

/-- java/lang/Comparable -/
def k3 : Class := { plain "java/lang/Comparable" (some 0) with
  accessFlags := 1537
  interfaces := #[]
  cf := some (fileOf pool3 1 #[] #[] 1537 3 #[] #[])
  fields := #[]
  methods := #[]
  instanceTypes := #[]
  staticTypes := #[]
  resolved := Array.replicate 12 none
  statics := none }

def pool4 : Array CpInfo := pool [(2, .class_ 4), (1, u "java/lang/CharSequence"), (42, .class_ 48), (0, u "java/lang/CharSequence$1CodePointIterator"), (10, .class_ 60), (0, u "java/lang/CharSequence$1CharIterator"), (5, .class_ 67), (0, u "java/lang/Object")] 63

/-- java/lang/CharSequence -/
def k4 : Class := { plain "java/lang/CharSequence" (some 0) with
  accessFlags := 1537
  interfaces := #[]
  cf := some (fileOf pool4 2 #[.nestMembers #[47, 59]] #[] 1537 66 #[] #[])
  fields := #[]
  methods := #[]
  instanceTypes := #[]
  staticTypes := #[]
  resolved := Array.replicate 131 none
  statics := none }

def pool5 : Array CpInfo := pool [(1, .class_ 2), (0, u "java/lang/constant/Constable"), (0, .class_ 4), (0, u "java/lang/Object")] 6

/-- java/lang/constant/Constable -/
def k5 : Class := { plain "java/lang/constant/Constable" (some 0) with
  accessFlags := 1537
  interfaces := #[]
  cf := some (fileOf pool5 1 #[] #[] 1537 3 #[] #[])
  fields := #[]
  methods := #[]
  instanceTypes := #[]
  staticTypes := #[]
  resolved := Array.replicate 11 none
  statics := none }

def pool6 : Array CpInfo := pool [(1, .class_ 2), (0, u "java/lang/constant/ConstantDesc"), (0, .class_ 4), (0, u "java/lang/Object")] 32

/-- java/lang/constant/ConstantDesc -/
def k6 : Class := { plain "java/lang/constant/ConstantDesc" (some 0) with
  accessFlags := 1537
  interfaces := #[]
  cf := some (fileOf pool6 1 #[] #[] 1537 3 #[] #[])
  fields := #[]
  methods := #[]
  instanceTypes := #[]
  staticTypes := #[]
  resolved := Array.replicate 37 none
  statics := none }

def pool7 : Array CpInfo := pool [(1, .methodref 2 3), (0, .class_ 4), (0, .nameAndType 5 6), (0, u "java/lang/Object"), (0, u "<init>"), (0, u "()V"), (0, .string 8), (0, u ""), (0, .fieldref 10 11), (0, .class_ 12), (0, .nameAndType 13 14), (0, u "java/lang/String"), (0, u "value"), (0, u "[B"), (0, .fieldref 10 16), (0, .nameAndType 17 18), (0, u "coder"), (0, u "B"), (2, u "hash"), (0, u "I"), (2, u "hashIsZero"), (0, u "Z"), (0, .methodref 10 28), (0, .nameAndType 5 29), (0, u "([CIILjava/lang/Void;)V"), (8, .fieldref 10 39), (0, .nameAndType 40 26), (0, u "COMPACT_STRINGS"), (1, .class_ 44), (1, u "java/lang/StringUTF16"), (0, u "compress"), (1, .methodref 42 48), (0, .nameAndType 49 50), (0, u "coderFromArrayLen"), (0, u "([BI)B"), (3, .methodref 55 56), (0, .class_ 57), (0, .nameAndType 58 59), (0, u "java/util/Arrays"), (0, u "copyOfRange"), (0, u "([BII)[B"), (47, .class_ 109), (1, u "java/lang/StringLatin1"), (32, u "()Z"), (34, .methodref 42 178), (0, .nameAndType 45 179), (0, u "([CII)[B"), (13, .class_ 195), (1, u "java/lang/System"), (16, .methodref 193 213), (0, .nameAndType 214 215), (0, u "arraycopy"), (0, u "(Ljava/lang/Object;ILjava/lang/Object;II)V"), (118, u "()I"), (0, .methodref 10 336), (0, .nameAndType 17 337), (0, u "()B"), (2, u "()[B"), (22, u "([BI)C"), (27, u "(II)V"), (35, u "(I)C"), (61, .methodref 10 490), (0, .nameAndType 5 491), (0, u "(Ljava/lang/AbstractStringBuilder;Ljava/lang/Void;)V"), (0, .methodref 10 493), (0, .nameAndType 494 142), (0, u "isLatin1"), (0, .methodref 107 496), (0, .nameAndType 497 363), (0, u "charAt"), (3, u "checkIndex"), (4, .nameAndType 507 334), (0, u "length"), (24, u "getBytes"), (16, .methodref 550 506), (0, .class_ 551), (0, u "java/lang/AbstractStringBuilder"), (0, .methodref 550 553), (0, .nameAndType 554 340), (0, u "getValue"), (20, .class_ 576), (0, u "java/lang/CharSequence"), (22, u "CASE_INSENSITIVE_ORDER"), (0, u "Ljava/util/Comparator;"), (220, u "([BIB)V"), (188, u "([C)V"), (36, .methodref 550 493), (5, .fieldref 1054 1055), (0, .class_ 1056), (0, .nameAndType 1057 1058), (0, u "jdk/internal/util/Preconditions"), (0, u "SIOOBE_FORMATTER"), (0, u "Ljava/util/function/BiFunction;"), (0, .methodref 1054 1060), (0, .nameAndType 501 1061), (0, u "(IILjava/util/function/BiFunction;)I"), (39, u "serialPersistentFields"), (0, u "[Ljava/io/ObjectStreamField;"), (0, .class_ 1104), (0, u "java/lang/String$CaseInsensitiveComparator"), (1, .class_ 1107), (0, u "java/io/Serializable"), (0, .class_ 1109), (0, u "java/lang/Comparable"), (0, .class_ 1111), (0, u "java/lang/constant/Constable"), (0, .class_ 1113), (0, u "java/lang/constant/ConstantDesc"), (2, u "serialVersionUID"), (0, u "J"), (3, u "REPL"), (0, u "C"), (2, u "LATIN1"), (1, u "UTF16"), (105, u "(Ljava/lang/StringBuilder;)V")] 217

def k7m0 : Method := { name := "<init>", desc := "()V", sig := { parameters := [], returnType := none }, accessFlags := 1, code := none }
def k7c1 : Code := { maxStack := 5, maxLocals := 2, code := jdk_42_method_3_code, exceptionTable := #[], attributes := #[] }
def k7m1 : Method := { name := "<init>", desc := "([C)V", sig := { parameters := [(.array .char)], returnType := none }, accessFlags := 1, code := some k7c1 }
def k7c2 : Code := { maxStack := 3, maxLocals := 2, code := jdk_42_method_53_code, exceptionTable := #[], attributes := #[] }
def k7m2 : Method := { name := "<init>", desc := "(Ljava/lang/StringBuilder;)V", sig := { parameters := [(.object "java/lang/StringBuilder")], returnType := none }, accessFlags := 1, code := some k7c2 }
def k7c3 : Code := { maxStack := 2, maxLocals := 1, code := jdk_42_method_54_code, exceptionTable := #[], attributes := #[] }
def k7m3 : Method := { name := "length", desc := "()I", sig := { parameters := [], returnType := some .int }, accessFlags := 1, code := some k7c3 }
def k7c4 : Code := { maxStack := 2, maxLocals := 2, code := jdk_42_method_56_code, exceptionTable := #[], attributes := #[] }
def k7m4 : Method := { name := "charAt", desc := "(I)C", sig := { parameters := [.int], returnType := some .char }, accessFlags := 1, code := some k7c4 }
def k7c5 : Code := { maxStack := 5, maxLocals := 4, code := jdk_42_method_147_code, exceptionTable := #[], attributes := #[] }
def k7m5 : Method := { name := "getBytes", desc := "([BIB)V", sig := { parameters := [(.array .byte), .int, .byte], returnType := none }, accessFlags := 0, code := some k7c5 }
def k7c6 : Code := { maxStack := 4, maxLocals := 6, code := jdk_42_method_149_code, exceptionTable := #[], attributes := #[] }
def k7m6 : Method := { name := "<init>", desc := "([CIILjava/lang/Void;)V", sig := { parameters := [(.array .char), .int, .int, (.object "java/lang/Void")], returnType := none }, accessFlags := 2, code := some k7c6 }
def k7c7 : Code := { maxStack := 5, maxLocals := 5, code := jdk_42_method_150_code, exceptionTable := #[], attributes := #[] }
def k7m7 : Method := { name := "<init>", desc := "(Ljava/lang/AbstractStringBuilder;Ljava/lang/Void;)V", sig := { parameters := [(.object "java/lang/AbstractStringBuilder"), (.object "java/lang/Void")], returnType := none }, accessFlags := 0, code := some k7c7 }
def k7c8 : Code := { maxStack := 1, maxLocals := 1, code := jdk_42_method_152_code, exceptionTable := #[], attributes := #[] }
def k7m8 : Method := { name := "coder", desc := "()B", sig := { parameters := [], returnType := some .byte }, accessFlags := 0, code := some k7c8 }
def k7c9 : Code := { maxStack := 1, maxLocals := 1, code := jdk_42_method_154_code, exceptionTable := #[], attributes := #[] }
def k7m9 : Method := { name := "isLatin1", desc := "()Z", sig := { parameters := [], returnType := some .boolean }, accessFlags := 0, code := some k7c9 }
def k7c10 : Code := { maxStack := 3, maxLocals := 2, code := jdk_42_method_155_code, exceptionTable := #[], attributes := #[] }
def k7m10 : Method := { name := "checkIndex", desc := "(II)V", sig := { parameters := [.int, .int], returnType := none }, accessFlags := 8, code := some k7c10 }
/-- java/lang/String -/
def k7 : Class := { plain "java/lang/String" (some 0) with
  accessFlags := 49
  interfaces := #[2, 3, 4, 5, 6]
  cf := some (fileOf pool7 10 #[.nestMembers #[1103]] #[{ accessFlags := 1, nameIndex := 5, descriptorIndex := 6, attributes := #[] }, { accessFlags := 1, nameIndex := 5, descriptorIndex := 1010, attributes := #[] }, { accessFlags := 1, nameIndex := 5, descriptorIndex := 1233, attributes := #[] }, { accessFlags := 1, nameIndex := 507, descriptorIndex := 334, attributes := #[] }, { accessFlags := 1, nameIndex := 497, descriptorIndex := 427, attributes := #[] }, { accessFlags := 0, nameIndex := 532, descriptorIndex := 821, attributes := #[] }, { accessFlags := 2, nameIndex := 5, descriptorIndex := 29, attributes := #[] }, { accessFlags := 0, nameIndex := 5, descriptorIndex := 491, attributes := #[] }, { accessFlags := 0, nameIndex := 17, descriptorIndex := 337, attributes := #[] }, { accessFlags := 0, nameIndex := 494, descriptorIndex := 142, attributes := #[] }, { accessFlags := 8, nameIndex := 501, descriptorIndex := 391, attributes := #[] }] 49 2 #[1106, 1108, 575, 1110, 1112] #[{ accessFlags := 18, nameIndex := 13, descriptorIndex := 14, attributes := #[] }, { accessFlags := 18, nameIndex := 17, descriptorIndex := 18, attributes := #[] }, { accessFlags := 2, nameIndex := 21, descriptorIndex := 22, attributes := #[] }, { accessFlags := 2, nameIndex := 25, descriptorIndex := 26, attributes := #[] }, { accessFlags := 26, nameIndex := 1116, descriptorIndex := 1117, attributes := #[] }, { accessFlags := 24, nameIndex := 40, descriptorIndex := 26, attributes := #[] }, { accessFlags := 26, nameIndex := 1101, descriptorIndex := 1102, attributes := #[] }, { accessFlags := 26, nameIndex := 1121, descriptorIndex := 1122, attributes := #[] }, { accessFlags := 25, nameIndex := 599, descriptorIndex := 600, attributes := #[] }, { accessFlags := 24, nameIndex := 1125, descriptorIndex := 18, attributes := #[] }, { accessFlags := 24, nameIndex := 1127, descriptorIndex := 18, attributes := #[] }])
  fields := #[{ name := "value", type := (.array .byte), accessFlags := 18, slot := 0, constantValue := 0 }, { name := "coder", type := .byte, accessFlags := 18, slot := 1, constantValue := 0 }, { name := "hash", type := .int, accessFlags := 2, slot := 2, constantValue := 0 }, { name := "hashIsZero", type := .boolean, accessFlags := 2, slot := 3, constantValue := 0 }, { name := "serialVersionUID", type := .long, accessFlags := 26, slot := 0, constantValue := 0 }, { name := "COMPACT_STRINGS", type := .boolean, accessFlags := 24, slot := 1, constantValue := 0 }, { name := "serialPersistentFields", type := (.array (.object "java/io/ObjectStreamField")), accessFlags := 26, slot := 2, constantValue := 0 }, { name := "REPL", type := .char, accessFlags := 26, slot := 3, constantValue := 0 }, { name := "CASE_INSENSITIVE_ORDER", type := (.object "java/util/Comparator"), accessFlags := 25, slot := 4, constantValue := 0 }, { name := "LATIN1", type := .byte, accessFlags := 24, slot := 5, constantValue := 0 }, { name := "UTF16", type := .byte, accessFlags := 24, slot := 6, constantValue := 0 }]
  methods := #[k7m0, k7m1, k7m2, k7m3, k7m4, k7m5, k7m6, k7m7, k7m8, k7m9, k7m10]
  instanceTypes := #[(.array .byte), .byte, .int, .boolean]
  staticTypes := #[.long, .boolean, (.array (.object "java/io/ObjectStreamField")), .char, (.object "java/util/Comparator"), .byte, .byte]
  resolved := Array.replicate 1451 none
  statics := some 0 }

def pool8 : Array CpInfo := pool [(1, .methodref 2 3), (0, .class_ 4), (0, .nameAndType 5 6), (0, u "java/lang/Object"), (0, u "<init>"), (0, u "()V"), (0, .class_ 8), (0, u "java/lang/Record")] 13

def k8c0 : Code := { maxStack := 1, maxLocals := 1, code := jdk_30_method_1_code, exceptionTable := #[], attributes := #[] }
def k8m0 : Method := { name := "<init>", desc := "()V", sig := { parameters := [], returnType := none }, accessFlags := 4, code := some k8c0 }
/-- java/lang/Record -/
def k8 : Class := { plain "java/lang/Record" (some 0) with
  accessFlags := 1057
  interfaces := #[]
  cf := some (fileOf pool8 7 #[] #[{ accessFlags := 4, nameIndex := 5, descriptorIndex := 6, attributes := #[] }] 1057 2 #[] #[])
  fields := #[]
  methods := #[k8m0]
  instanceTypes := #[]
  staticTypes := #[]
  resolved := Array.replicate 22 none
  statics := none }

def pool9 : Array CpInfo := pool [(1, .methodref 2 3), (0, .class_ 4), (0, .nameAndType 5 6), (0, u "java/lang/Record"), (0, u "<init>"), (0, u "()V"), (0, .fieldref 8 9), (0, .class_ 10), (0, .nameAndType 11 12), (0, u "kakehashi/cli/Arguments$Option"), (0, u "name"), (0, u "Ljava/lang/String;"), (0, .fieldref 8 14), (0, .nameAndType 15 12), (0, u "value"), (0, .class_ 17), (0, u "kakehashi/cli/UsageException"), (0, .class_ 19), (0, u "java/lang/StringBuilder"), (0, .methodref 18 3), (0, .methodref 18 22), (0, .nameAndType 23 24), (0, u "append"), (0, u "(Ljava/lang/String;)Ljava/lang/StringBuilder;"), (0, .string 26), (0, u " needs "), (0, .methodref 18 28), (0, .nameAndType 29 30), (0, u "toString"), (0, u "()Ljava/lang/String;"), (0, .methodref 16 32), (0, .nameAndType 5 33), (0, u "(Ljava/lang/String;)V"), (15, u "(Ljava/lang/String;Ljava/lang/String;)V"), (3, u "missing"), (0, u "()Lkakehashi/cli/UsageException;"), (7, .class_ 63), (0, u "kakehashi/cli/Arguments")] 20

def k9c0 : Code := { maxStack := 2, maxLocals := 3, code := prog_5_method_1_code, exceptionTable := #[], attributes := #[] }
def k9m0 : Method := { name := "<init>", desc := "(Ljava/lang/String;Ljava/lang/String;)V", sig := { parameters := [(.object "java/lang/String"), (.object "java/lang/String")], returnType := none }, accessFlags := 0, code := some k9c0 }
def k9c1 : Code := { maxStack := 4, maxLocals := 1, code := prog_5_method_2_code, exceptionTable := #[], attributes := #[] }
def k9m1 : Method := { name := "missing", desc := "()Lkakehashi/cli/UsageException;", sig := { parameters := [], returnType := some (.object "kakehashi/cli/UsageException") }, accessFlags := 0, code := some k9c1 }
/-- kakehashi/cli/Arguments$Option -/
def k9 : Class := { plain "kakehashi/cli/Arguments$Option" (some 8) with
  accessFlags := 48
  interfaces := #[]
  cf := some (fileOf pool9 8 #[.nestHost 62] #[{ accessFlags := 0, nameIndex := 5, descriptorIndex := 49, attributes := #[] }, { accessFlags := 0, nameIndex := 53, descriptorIndex := 54, attributes := #[] }] 48 2 #[] #[{ accessFlags := 18, nameIndex := 11, descriptorIndex := 12, attributes := #[] }, { accessFlags := 18, nameIndex := 15, descriptorIndex := 12, attributes := #[] }])
  fields := #[{ name := "name", type := (.object "java/lang/String"), accessFlags := 18, slot := 0, constantValue := 0 }, { name := "value", type := (.object "java/lang/String"), accessFlags := 18, slot := 1, constantValue := 0 }]
  methods := #[k9m0, k9m1]
  instanceTypes := #[(.object "java/lang/String"), (.object "java/lang/String")]
  staticTypes := #[]
  resolved := Array.replicate 84 none
  statics := none }

def pool10 : Array CpInfo := pool [(1, .methodref 2 3), (0, .class_ 4), (0, .nameAndType 5 6), (0, u "java/lang/Object"), (0, u "<init>"), (0, u "()V"), (0, .fieldref 8 9), (0, .class_ 10), (0, .nameAndType 11 12), (0, u "java/lang/Throwable"), (0, u "cause"), (0, u "Ljava/lang/Throwable;"), (0, .fieldref 8 14), (0, .nameAndType 15 16), (0, u "UNASSIGNED_STACK"), (0, u "[Ljava/lang/StackTraceElement;"), (0, .fieldref 8 18), (0, .nameAndType 19 16), (0, u "stackTrace"), (0, .fieldref 8 21), (0, .nameAndType 22 23), (0, u "SUPPRESSED_SENTINEL"), (0, u "Ljava/util/List;"), (0, .fieldref 8 25), (0, .nameAndType 26 23), (0, u "suppressedExceptions"), (0, .methodref 8 28), (0, .nameAndType 29 30), (0, u "fillInStackTrace"), (0, u "()Ljava/lang/Throwable;"), (0, .fieldref 8 32), (0, .nameAndType 33 34), (0, u "detailMessage"), (0, u "Ljava/lang/String;"), (3, u "()Ljava/lang/String;"), (2, u "getMessage"), (21, u "(Ljava/lang/String;Ljava/lang/Throwable;)V"), (29, .class_ 94), (0, u "java/lang/Throwable$WrappedPrintStream"), (6, .class_ 103), (1, u "java/lang/Throwable$PrintStreamOrWriter"), (61, u "$assertionsDisabled"), (0, u "Z"), (26, .class_ 194), (0, u "java/lang/Throwable$WrappedPrintWriter"), (3, .fieldref 8 199), (0, .nameAndType 200 201), (0, u "backtrace"), (0, u "Ljava/lang/Object;"), (0, .methodref 8 203), (0, .nameAndType 29 204), (0, u "(I)Ljava/lang/Throwable;"), (6, u "depth"), (0, u "I"), (56, .class_ 271), (1, u "java/lang/Throwable$SentinelHolder"), (32, u "EMPTY_THROWABLE_ARRAY"), (0, u "[Ljava/lang/Throwable;"), (12, .class_ 319), (0, u "java/io/Serializable"), (0, u "serialVersionUID"), (0, u "J"), (5, u "NULL_CAUSE_MESSAGE"), (0, u "SELF_SUPPRESSION_MESSAGE"), (0, u "CAUSE_CAPTION"), (0, u "SUPPRESSED_CAPTION")] 73

def k10c0 : Code := { maxStack := 2, maxLocals := 1, code := jdk_78_method_1_code, exceptionTable := #[], attributes := #[] }
def k10m0 : Method := { name := "<init>", desc := "()V", sig := { parameters := [], returnType := none }, accessFlags := 1, code := some k10c0 }
def k10c1 : Code := { maxStack := 2, maxLocals := 3, code := jdk_78_method_3_code, exceptionTable := #[], attributes := #[] }
def k10m1 : Method := { name := "<init>", desc := "(Ljava/lang/String;Ljava/lang/Throwable;)V", sig := { parameters := [(.object "java/lang/String"), (.object "java/lang/Throwable")], returnType := none }, accessFlags := 1, code := some k10c1 }
def k10c2 : Code := { maxStack := 1, maxLocals := 1, code := jdk_78_method_6_code, exceptionTable := #[], attributes := #[] }
def k10m2 : Method := { name := "getMessage", desc := "()Ljava/lang/String;", sig := { parameters := [], returnType := some (.object "java/lang/String") }, accessFlags := 1, code := some k10c2 }
def k10c3 : Code := { maxStack := 2, maxLocals := 1, code := ⟨#[0x2a, 0xb4, 0x00, 0x11, 0xc7, 0x00, 0x0a, 0x2a, 0xb4, 0x00, 0xc6, 0xc6, 0x00, 0x10, 0x2a, 0x03, 0xb6, 0x00, 0xca, 0x57, 0x2a, 0xb2, 0x00, 0x0d, 0xb5, 0x00, 0x11, 0x2a, 0xb0]⟩, exceptionTable := #[], attributes := #[] }
def k10m3 : Method := { name := "fillInStackTrace", desc := "()Ljava/lang/Throwable;", sig := { parameters := [], returnType := some (.object "java/lang/Throwable") }, accessFlags := 33, code := some k10c3 }
def k10m4 : Method := { name := "fillInStackTrace", desc := "(I)Ljava/lang/Throwable;", sig := { parameters := [.int], returnType := some (.object "java/lang/Throwable") }, accessFlags := 258, code := none }
/-- java/lang/Throwable -/
def k10 : Class := { plain "java/lang/Throwable" (some 0) with
  accessFlags := 33
  interfaces := #[2]
  cf := some (fileOf pool10 8 #[.nestMembers #[193, 93, 101, 269]] #[{ accessFlags := 1, nameIndex := 5, descriptorIndex := 6, attributes := #[] }, { accessFlags := 1, nameIndex := 5, descriptorIndex := 63, attributes := #[] }, { accessFlags := 1, nameIndex := 41, descriptorIndex := 38, attributes := #[] }, { accessFlags := 33, nameIndex := 29, descriptorIndex := 30, attributes := #[] }, { accessFlags := 258, nameIndex := 29, descriptorIndex := 204, attributes := #[] }] 33 2 #[318] #[{ accessFlags := 26, nameIndex := 320, descriptorIndex := 321, attributes := #[] }, { accessFlags := 130, nameIndex := 200, descriptorIndex := 201, attributes := #[] }, { accessFlags := 2, nameIndex := 33, descriptorIndex := 34, attributes := #[] }, { accessFlags := 26, nameIndex := 15, descriptorIndex := 16, attributes := #[] }, { accessFlags := 2, nameIndex := 11, descriptorIndex := 12, attributes := #[] }, { accessFlags := 2, nameIndex := 19, descriptorIndex := 16, attributes := #[] }, { accessFlags := 130, nameIndex := 211, descriptorIndex := 212, attributes := #[] }, { accessFlags := 26, nameIndex := 22, descriptorIndex := 23, attributes := #[] }, { accessFlags := 2, nameIndex := 26, descriptorIndex := 23, attributes := #[] }, { accessFlags := 26, nameIndex := 327, descriptorIndex := 34, attributes := #[] }, { accessFlags := 26, nameIndex := 328, descriptorIndex := 34, attributes := #[] }, { accessFlags := 26, nameIndex := 329, descriptorIndex := 34, attributes := #[] }, { accessFlags := 26, nameIndex := 330, descriptorIndex := 34, attributes := #[] }, { accessFlags := 26, nameIndex := 304, descriptorIndex := 305, attributes := #[] }, { accessFlags := 4120, nameIndex := 165, descriptorIndex := 166, attributes := #[] }])
  fields := #[{ name := "serialVersionUID", type := .long, accessFlags := 26, slot := 0, constantValue := 0 }, { name := "backtrace", type := (.object "java/lang/Object"), accessFlags := 130, slot := 0, constantValue := 0 }, { name := "detailMessage", type := (.object "java/lang/String"), accessFlags := 2, slot := 1, constantValue := 0 }, { name := "UNASSIGNED_STACK", type := (.array (.object "java/lang/StackTraceElement")), accessFlags := 26, slot := 1, constantValue := 0 }, { name := "cause", type := (.object "java/lang/Throwable"), accessFlags := 2, slot := 2, constantValue := 0 }, { name := "stackTrace", type := (.array (.object "java/lang/StackTraceElement")), accessFlags := 2, slot := 3, constantValue := 0 }, { name := "depth", type := .int, accessFlags := 130, slot := 4, constantValue := 0 }, { name := "SUPPRESSED_SENTINEL", type := (.object "java/util/List"), accessFlags := 26, slot := 2, constantValue := 0 }, { name := "suppressedExceptions", type := (.object "java/util/List"), accessFlags := 2, slot := 5, constantValue := 0 }, { name := "NULL_CAUSE_MESSAGE", type := (.object "java/lang/String"), accessFlags := 26, slot := 3, constantValue := 0 }, { name := "SELF_SUPPRESSION_MESSAGE", type := (.object "java/lang/String"), accessFlags := 26, slot := 4, constantValue := 0 }, { name := "CAUSE_CAPTION", type := (.object "java/lang/String"), accessFlags := 26, slot := 5, constantValue := 0 }, { name := "SUPPRESSED_CAPTION", type := (.object "java/lang/String"), accessFlags := 26, slot := 6, constantValue := 0 }, { name := "EMPTY_THROWABLE_ARRAY", type := (.array (.object "java/lang/Throwable")), accessFlags := 26, slot := 7, constantValue := 0 }, { name := "$assertionsDisabled", type := .boolean, accessFlags := 4120, slot := 8, constantValue := 0 }]
  methods := #[k10m0, k10m1, k10m2, k10m3, k10m4]
  instanceTypes := #[(.object "java/lang/Object"), (.object "java/lang/String"), (.object "java/lang/Throwable"), (.array (.object "java/lang/StackTraceElement")), .int, (.object "java/util/List")]
  staticTypes := #[.long, (.array (.object "java/lang/StackTraceElement")), (.object "java/util/List"), (.object "java/lang/String"), (.object "java/lang/String"), (.object "java/lang/String"), (.object "java/lang/String"), (.array (.object "java/lang/Throwable")), .boolean]
  resolved := Array.replicate 404 none
  statics := some 1 }

def pool11 : Array CpInfo := pool [(2, .class_ 4), (1, u "java/lang/Throwable"), (0, u "<init>"), (0, u "()V"), (3, .methodref 2 11), (0, .nameAndType 5 12), (0, u "(Ljava/lang/String;Ljava/lang/Throwable;)V"), (6, .class_ 20), (0, u "java/lang/Exception"), (0, u "serialVersionUID"), (0, u "J")] 17

def k11m0 : Method := { name := "<init>", desc := "()V", sig := { parameters := [], returnType := none }, accessFlags := 1, code := none }
def k11c1 : Code := { maxStack := 3, maxLocals := 3, code := jdk_59_method_3_code, exceptionTable := #[], attributes := #[] }
def k11m1 : Method := { name := "<init>", desc := "(Ljava/lang/String;Ljava/lang/Throwable;)V", sig := { parameters := [(.object "java/lang/String"), (.object "java/lang/Throwable")], returnType := none }, accessFlags := 1, code := some k11c1 }
/-- java/lang/Exception -/
def k11 : Class := { plain "java/lang/Exception" (some 10) with
  accessFlags := 33
  interfaces := #[]
  cf := some (fileOf pool11 19 #[] #[{ accessFlags := 1, nameIndex := 5, descriptorIndex := 6, attributes := #[] }, { accessFlags := 1, nameIndex := 5, descriptorIndex := 12, attributes := #[] }] 33 2 #[] #[{ accessFlags := 24, nameIndex := 21, descriptorIndex := 22, attributes := #[] }])
  fields := #[{ name := "serialVersionUID", type := .long, accessFlags := 24, slot := 0, constantValue := 0 }]
  methods := #[k11m0, k11m1]
  instanceTypes := #[(.object "java/lang/Object"), (.object "java/lang/String"), (.object "java/lang/Throwable"), (.array (.object "java/lang/StackTraceElement")), .int, (.object "java/util/List")]
  staticTypes := #[.long]
  resolved := Array.replicate 40 none
  statics := none }

def pool12 : Array CpInfo := pool [(1, .methodref 2 3), (0, .class_ 4), (0, .nameAndType 5 6), (0, u "java/lang/Exception"), (0, u "<init>"), (0, u "(Ljava/lang/String;Ljava/lang/Throwable;)V"), (0, .class_ 8), (0, u "kakehashi/cli/CommandException"), (0, u "serialVersionUID"), (0, u "J")] 7

def k12c0 : Code := { maxStack := 3, maxLocals := 3, code := prog_8_method_1_code, exceptionTable := #[], attributes := #[] }
def k12m0 : Method := { name := "<init>", desc := "(Ljava/lang/String;Ljava/lang/Throwable;)V", sig := { parameters := [(.object "java/lang/String"), (.object "java/lang/Throwable")], returnType := none }, accessFlags := 1, code := some k12c0 }
/-- kakehashi/cli/CommandException -/
def k12 : Class := { plain "kakehashi/cli/CommandException" (some 11) with
  accessFlags := 33
  interfaces := #[]
  cf := some (fileOf pool12 7 #[] #[{ accessFlags := 1, nameIndex := 5, descriptorIndex := 6, attributes := #[] }] 33 2 #[] #[{ accessFlags := 26, nameIndex := 9, descriptorIndex := 10, attributes := #[] }])
  fields := #[{ name := "serialVersionUID", type := .long, accessFlags := 26, slot := 0, constantValue := 0 }]
  methods := #[k12m0]
  instanceTypes := #[(.object "java/lang/Object"), (.object "java/lang/String"), (.object "java/lang/Throwable"), (.array (.object "java/lang/StackTraceElement")), .int, (.object "java/util/List")]
  staticTypes := #[.long]
  resolved := Array.replicate 18 none
  statics := none }

def pool13 : Array CpInfo := pool [(1, .methodref 2 3), (0, .class_ 4), (0, .nameAndType 5 6), (0, u "kakehashi/cli/CommandException"), (0, u "<init>"), (0, u "(Ljava/lang/String;Ljava/lang/Throwable;)V"), (0, .class_ 8), (0, u "kakehashi/cli/UsageException"), (0, u "serialVersionUID"), (0, u "J"), (3, u "(Ljava/lang/String;)V")] 4

def k13c0 : Code := { maxStack := 3, maxLocals := 2, code := prog_25_method_1_code, exceptionTable := #[], attributes := #[] }
def k13m0 : Method := { name := "<init>", desc := "(Ljava/lang/String;)V", sig := { parameters := [(.object "java/lang/String")], returnType := none }, accessFlags := 1, code := some k13c0 }
/-- kakehashi/cli/UsageException -/
def k13 : Class := { plain "kakehashi/cli/UsageException" (some 12) with
  accessFlags := 49
  interfaces := #[]
  cf := some (fileOf pool13 7 #[] #[{ accessFlags := 1, nameIndex := 5, descriptorIndex := 14, attributes := #[] }] 49 2 #[] #[{ accessFlags := 26, nameIndex := 9, descriptorIndex := 10, attributes := #[] }])
  fields := #[{ name := "serialVersionUID", type := .long, accessFlags := 26, slot := 0, constantValue := 0 }]
  methods := #[k13m0]
  instanceTypes := #[(.object "java/lang/Object"), (.object "java/lang/String"), (.object "java/lang/Throwable"), (.array (.object "java/lang/StackTraceElement")), .int, (.object "java/util/List")]
  staticTypes := #[.long]
  resolved := Array.replicate 19 none
  statics := none }

def pool14 : Array CpInfo := pool [(1, .class_ 2), (0, u "java/lang/Appendable"), (0, .class_ 4), (0, u "java/lang/Object")] 9

/-- java/lang/Appendable -/
def k14 : Class := { plain "java/lang/Appendable" (some 0) with
  accessFlags := 1537
  interfaces := #[]
  cf := some (fileOf pool14 1 #[] #[] 1537 3 #[] #[])
  fields := #[]
  methods := #[]
  instanceTypes := #[]
  staticTypes := #[]
  resolved := Array.replicate 14 none
  statics := none }

def pool15 : Array CpInfo := pool [(1, .class_ 2), (0, u "java/lang/String"), (0, .methodref 4 5), (0, .class_ 6), (0, .nameAndType 7 8), (0, u "java/lang/Object"), (0, u "<init>"), (0, u "()V"), (1, .class_ 12), (1, u "java/lang/AbstractStringBuilder"), (0, u "EMPTYVALUE"), (0, u "[B"), (0, .fieldref 10 16), (0, .nameAndType 17 14), (0, u "value"), (0, .fieldref 1 19), (0, .nameAndType 20 21), (0, u "COMPACT_STRINGS"), (0, u "Z"), (0, .fieldref 10 23), (0, .nameAndType 24 25), (0, u "coder"), (0, u "B"), (6, .methodref 1 33), (0, .nameAndType 34 35), (0, u "length"), (0, u "()I"), (4, .methodref 1 41), (0, .nameAndType 24 42), (0, u "()B"), (2, u "append"), (0, u "(Ljava/lang/String;)Ljava/lang/AbstractStringBuilder;"), (1, .class_ 49), (0, u "java/lang/CharSequence"), (19, u "(Ljava/lang/String;)V"), (5, u "maybeLatin1"), (3, .fieldref 10 80), (0, .nameAndType 81 82), (0, u "count"), (0, u "I"), (2, u "isLatin1"), (0, u "()Z"), (13, .methodref 10 101), (0, .nameAndType 102 103), (0, u "ensureCapacityInternal"), (0, u "(I)V"), (104, .methodref 10 209), (0, .nameAndType 210 211), (0, u "putStringAt"), (0, u "(ILjava/lang/String;)V"), (5, u "inflateIfNeededFor"), (2, .nameAndType 221 222), (0, u "getBytes"), (0, u "([BIB)V"), (174, .methodref 10 398), (0, .nameAndType 217 69), (0, .methodref 1 220), (3, u "()[B"), (40, .class_ 445), (0, u "java/lang/Appendable"), (106, u "getValue")] 56

def k15m0 : Method := { name := "<init>", desc := "()V", sig := { parameters := [], returnType := none }, accessFlags := 0, code := none }
def k15c1 : Code := { maxStack := 2, maxLocals := 2, code := jdk_68_method_2_code, exceptionTable := #[], attributes := #[] }
def k15m1 : Method := { name := "<init>", desc := "(I)V", sig := { parameters := [.int], returnType := none }, accessFlags := 0, code := some k15c1 }
def k15c2 : Code := { maxStack := 1, maxLocals := 1, code := jdk_68_method_6_code, exceptionTable := #[], attributes := #[] }
def k15m2 : Method := { name := "length", desc := "()I", sig := { parameters := [], returnType := some .int }, accessFlags := 1, code := some k15c2 }
def k15c3 : Code := { maxStack := 4, maxLocals := 3, code := jdk_68_method_9_code, exceptionTable := #[], attributes := #[] }
def k15m3 : Method := { name := "ensureCapacityInternal", desc := "(I)V", sig := { parameters := [.int], returnType := none }, accessFlags := 2, code := some k15c3 }
def k15c4 : Code := { maxStack := 3, maxLocals := 3, code := jdk_68_method_22_code, exceptionTable := #[], attributes := #[] }
def k15m4 : Method := { name := "append", desc := "(Ljava/lang/String;)Ljava/lang/AbstractStringBuilder;", sig := { parameters := [(.object "java/lang/String")], returnType := some (.object "java/lang/AbstractStringBuilder") }, accessFlags := 1, code := some k15c4 }
def k15c5 : Code := { maxStack := 1, maxLocals := 1, code := jdk_68_method_64_code, exceptionTable := #[], attributes := #[] }
def k15m5 : Method := { name := "getValue", desc := "()[B", sig := { parameters := [], returnType := some (.array .byte) }, accessFlags := 16, code := some k15c5 }
def k15c6 : Code := { maxStack := 1, maxLocals := 1, code := jdk_68_method_68_code, exceptionTable := #[], attributes := #[] }
def k15m6 : Method := { name := "isLatin1", desc := "()Z", sig := { parameters := [], returnType := some .boolean }, accessFlags := 16, code := some k15c6 }
def k15c7 : Code := { maxStack := 2, maxLocals := 2, code := jdk_68_method_71_code, exceptionTable := #[], attributes := #[] }
def k15m7 : Method := { name := "inflateIfNeededFor", desc := "(Ljava/lang/String;)V", sig := { parameters := [(.object "java/lang/String")], returnType := none }, accessFlags := 2, code := some k15c7 }
def k15c8 : Code := { maxStack := 4, maxLocals := 3, code := jdk_68_method_73_code, exceptionTable := #[], attributes := #[] }
def k15m8 : Method := { name := "putStringAt", desc := "(ILjava/lang/String;)V", sig := { parameters := [.int, (.object "java/lang/String")], returnType := none }, accessFlags := 2, code := some k15c8 }
/-- java/lang/AbstractStringBuilder -/
def k15 : Class := { plain "java/lang/AbstractStringBuilder" (some 0) with
  accessFlags := 1056
  interfaces := #[14, 4]
  cf := some (fileOf pool15 10 #[] #[{ accessFlags := 0, nameIndex := 7, descriptorIndex := 8, attributes := #[] }, { accessFlags := 0, nameIndex := 7, descriptorIndex := 103, attributes := #[] }, { accessFlags := 1, nameIndex := 34, descriptorIndex := 35, attributes := #[] }, { accessFlags := 2, nameIndex := 102, descriptorIndex := 103, attributes := #[] }, { accessFlags := 1, nameIndex := 45, descriptorIndex := 46, attributes := #[] }, { accessFlags := 16, nameIndex := 552, descriptorIndex := 403, attributes := #[] }, { accessFlags := 16, nameIndex := 85, descriptorIndex := 86, attributes := #[] }, { accessFlags := 2, nameIndex := 217, descriptorIndex := 69, attributes := #[] }, { accessFlags := 2, nameIndex := 210, descriptorIndex := 211, attributes := #[] }] 1056 4 #[444, 48] #[{ accessFlags := 0, nameIndex := 17, descriptorIndex := 14, attributes := #[] }, { accessFlags := 0, nameIndex := 24, descriptorIndex := 25, attributes := #[] }, { accessFlags := 0, nameIndex := 75, descriptorIndex := 21, attributes := #[] }, { accessFlags := 0, nameIndex := 81, descriptorIndex := 82, attributes := #[] }, { accessFlags := 26, nameIndex := 13, descriptorIndex := 14, attributes := #[] }])
  fields := #[{ name := "value", type := (.array .byte), accessFlags := 0, slot := 0, constantValue := 0 }, { name := "coder", type := .byte, accessFlags := 0, slot := 1, constantValue := 0 }, { name := "maybeLatin1", type := .boolean, accessFlags := 0, slot := 2, constantValue := 0 }, { name := "count", type := .int, accessFlags := 0, slot := 3, constantValue := 0 }, { name := "EMPTYVALUE", type := (.array .byte), accessFlags := 26, slot := 0, constantValue := 0 }]
  methods := #[k15m0, k15m1, k15m2, k15m3, k15m4, k15m5, k15m6, k15m7, k15m8]
  instanceTypes := #[(.array .byte), .byte, .boolean, .int]
  staticTypes := #[(.array .byte)]
  resolved := Array.replicate 609 none
  statics := none }

def pool16 : Array CpInfo := pool [(1, .methodref 2 3), (0, .class_ 4), (0, .nameAndType 5 6), (0, u "java/lang/AbstractStringBuilder"), (0, u "<init>"), (0, u "(I)V"), (11, .class_ 20), (1, u "java/lang/String"), (3, .class_ 26), (1, u "java/lang/StringBuilder"), (0, u "append"), (0, u "(Ljava/lang/String;)Ljava/lang/StringBuilder;"), (0, .methodref 2 30), (0, .nameAndType 27 31), (0, u "(Ljava/lang/String;)Ljava/lang/AbstractStringBuilder;"), (105, .methodref 18 138), (0, .nameAndType 5 139), (0, u "(Ljava/lang/StringBuilder;)V"), (5, u "()V"), (10, u "()I"), (186, .methodref 2 344), (0, .nameAndType 345 156), (0, u "length"), (3, .class_ 350), (0, u "java/lang/Appendable"), (0, .class_ 352), (0, u "java/io/Serializable"), (0, .class_ 354), (0, u "java/lang/Comparable"), (0, .class_ 356), (0, u "java/lang/CharSequence"), (0, u "serialVersionUID"), (0, u "J"), (40, u "toString"), (0, u "()Ljava/lang/String;")] 21

def k16c0 : Code := { maxStack := 2, maxLocals := 1, code := jdk_67_method_1_code, exceptionTable := #[], attributes := #[] }
def k16m0 : Method := { name := "<init>", desc := "()V", sig := { parameters := [], returnType := none }, accessFlags := 1, code := some k16c0 }
def k16c1 : Code := { maxStack := 2, maxLocals := 2, code := jdk_67_method_7_code, exceptionTable := #[], attributes := #[] }
def k16m1 : Method := { name := "append", desc := "(Ljava/lang/String;)Ljava/lang/StringBuilder;", sig := { parameters := [(.object "java/lang/String")], returnType := some (.object "java/lang/StringBuilder") }, accessFlags := 1, code := some k16c1 }
def k16c2 : Code := { maxStack := 3, maxLocals := 1, code := jdk_67_method_42_code, exceptionTable := #[], attributes := #[] }
def k16m2 : Method := { name := "toString", desc := "()Ljava/lang/String;", sig := { parameters := [], returnType := some (.object "java/lang/String") }, accessFlags := 1, code := some k16c2 }
def k16c3 : Code := { maxStack := 1, maxLocals := 1, code := jdk_67_method_93_code, exceptionTable := #[], attributes := #[] }
def k16m3 : Method := { name := "length", desc := "()I", sig := { parameters := [], returnType := some .int }, accessFlags := 4161, code := some k16c3 }
/-- java/lang/StringBuilder -/
def k16 : Class := { plain "java/lang/StringBuilder" (some 15) with
  accessFlags := 49
  interfaces := #[14, 2, 3, 4]
  cf := some (fileOf pool16 24 #[] #[{ accessFlags := 1, nameIndex := 5, descriptorIndex := 145, attributes := #[] }, { accessFlags := 1, nameIndex := 27, descriptorIndex := 28, attributes := #[] }, { accessFlags := 1, nameIndex := 399, descriptorIndex := 400, attributes := #[] }, { accessFlags := 4161, nameIndex := 345, descriptorIndex := 156, attributes := #[] }] 49 2 #[349, 351, 353, 355] #[{ accessFlags := 24, nameIndex := 357, descriptorIndex := 358, attributes := #[] }])
  fields := #[{ name := "serialVersionUID", type := .long, accessFlags := 24, slot := 0, constantValue := 0 }]
  methods := #[k16m0, k16m1, k16m2, k16m3]
  instanceTypes := #[(.array .byte), .byte, .boolean, .int]
  staticTypes := #[.long]
  resolved := Array.replicate 422 none
  statics := none }

def pool17 : Array CpInfo := pool [(2, .class_ 4), (1, u "java/lang/Object"), (0, u "<init>"), (0, u "()V"), (1, .class_ 10), (1, u "java/lang/System"), (0, u "allowSecurityManager"), (0, u "I"), (16, u "cons"), (0, u "Ljava/io/Console;"), (77, .class_ 110), (1, u "java/lang/System$CallersHolder"), (43, u "initialErrStream"), (0, u "Ljava/io/PrintStream;"), (19, u "security"), (0, u "Ljava/lang/SecurityManager;"), (31, .class_ 209), (0, u "java/lang/System$1"), (7, u "props"), (0, u "Ljava/util/Properties;"), (2, u "lineSeparator"), (0, u "Ljava/lang/String;"), (96, .class_ 321), (1, u "java/lang/System$LoggerFinder"), (5, .class_ 328), (0, u "java/lang/System$Logger"), (67, u "err"), (2, u "out"), (91, u "notSupportedJnuEncoding"), (15, u "in"), (17, u "initialIn"), (0, u "Ljava/io/InputStream;"), (35, u "bootLayer"), (0, u "Ljava/lang/ModuleLayer;"), (99, .class_ 664), (0, u "java/lang/System$2"), (9, u "NEVER"), (2, u "MAYBE"), (49, u "arraycopy"), (0, u "(Ljava/lang/Object;ILjava/lang/Object;II)V"), (72, .class_ 802), (0, u "java/lang/System$Logger$Level")] 31

def k17m0 : Method := { name := "<init>", desc := "()V", sig := { parameters := [], returnType := none }, accessFlags := 2, code := none }
def k17m1 : Method := { name := "arraycopy", desc := "(Ljava/lang/Object;ILjava/lang/Object;II)V", sig := { parameters := [(.object "java/lang/Object"), .int, (.object "java/lang/Object"), .int, .int], returnType := none }, accessFlags := 265, code := none }
/-- java/lang/System -/
def k17 : Class := { plain "java/lang/System" (some 0) with
  accessFlags := 49
  interfaces := #[]
  cf := some (fileOf pool17 8 #[.nestMembers #[319, 327, 801, 108, 663, 208]] #[{ accessFlags := 2, nameIndex := 5, descriptorIndex := 6, attributes := #[] }, { accessFlags := 265, nameIndex := 727, descriptorIndex := 728, attributes := #[] }] 49 2 #[] #[{ accessFlags := 25, nameIndex := 507, descriptorIndex := 526, attributes := #[] }, { accessFlags := 25, nameIndex := 399, descriptorIndex := 155, attributes := #[] }, { accessFlags := 25, nameIndex := 396, descriptorIndex := 155, attributes := #[] }, { accessFlags := 10, nameIndex := 525, descriptorIndex := 526, attributes := #[] }, { accessFlags := 26, nameIndex := 674, descriptorIndex := 12, attributes := #[] }, { accessFlags := 26, nameIndex := 677, descriptorIndex := 12, attributes := #[] }, { accessFlags := 10, nameIndex := 11, descriptorIndex := 12, attributes := #[] }, { accessFlags := 74, nameIndex := 175, descriptorIndex := 176, attributes := #[] }, { accessFlags := 10, nameIndex := 491, descriptorIndex := 222, attributes := #[] }, { accessFlags := 74, nameIndex := 29, descriptorIndex := 30, attributes := #[] }, { accessFlags := 74, nameIndex := 154, descriptorIndex := 155, attributes := #[] }, { accessFlags := 10, nameIndex := 217, descriptorIndex := 218, attributes := #[] }, { accessFlags := 10, nameIndex := 221, descriptorIndex := 222, attributes := #[] }, { accessFlags := 8, nameIndex := 562, descriptorIndex := 563, attributes := #[] }])
  fields := #[{ name := "in", type := (.object "java/io/InputStream"), accessFlags := 25, slot := 0, constantValue := 0 }, { name := "out", type := (.object "java/io/PrintStream"), accessFlags := 25, slot := 1, constantValue := 0 }, { name := "err", type := (.object "java/io/PrintStream"), accessFlags := 25, slot := 2, constantValue := 0 }, { name := "initialIn", type := (.object "java/io/InputStream"), accessFlags := 10, slot := 3, constantValue := 0 }, { name := "NEVER", type := .int, accessFlags := 26, slot := 4, constantValue := 0 }, { name := "MAYBE", type := .int, accessFlags := 26, slot := 5, constantValue := 0 }, { name := "allowSecurityManager", type := .int, accessFlags := 10, slot := 6, constantValue := 0 }, { name := "security", type := (.object "java/lang/SecurityManager"), accessFlags := 74, slot := 7, constantValue := 0 }, { name := "notSupportedJnuEncoding", type := (.object "java/lang/String"), accessFlags := 10, slot := 8, constantValue := 0 }, { name := "cons", type := (.object "java/io/Console"), accessFlags := 74, slot := 9, constantValue := 0 }, { name := "initialErrStream", type := (.object "java/io/PrintStream"), accessFlags := 74, slot := 10, constantValue := 0 }, { name := "props", type := (.object "java/util/Properties"), accessFlags := 10, slot := 11, constantValue := 0 }, { name := "lineSeparator", type := (.object "java/lang/String"), accessFlags := 10, slot := 12, constantValue := 0 }, { name := "bootLayer", type := (.object "java/lang/ModuleLayer"), accessFlags := 8, slot := 13, constantValue := 0 }]
  methods := #[k17m0, k17m1]
  instanceTypes := #[]
  staticTypes := #[(.object "java/io/InputStream"), (.object "java/io/PrintStream"), (.object "java/io/PrintStream"), (.object "java/io/InputStream"), .int, .int, .int, (.object "java/lang/SecurityManager"), (.object "java/lang/String"), (.object "java/io/Console"), (.object "java/io/PrintStream"), (.object "java/util/Properties"), (.object "java/lang/String"), (.object "java/lang/ModuleLayer")]
  resolved := Array.replicate 834 none
  statics := none }

def pool18 : Array CpInfo := pool [(2, .class_ 4), (1, u "java/lang/Object"), (0, u "<init>"), (0, u "()V"), (7, .class_ 16), (1, u "java/util/Arrays"), (57, .class_ 76), (1, u "java/util/Arrays$NaturalOrder"), (36, .class_ 115), (1, u "java/util/Arrays$LegacyMergeSort"), (1, u "Z"), (21, u "copyOfRange"), (10, .methodref 151 152), (0, .class_ 153), (0, .nameAndType 154 155), (0, u "java/lang/System"), (0, u "arraycopy"), (0, u "(Ljava/lang/Object;ILjava/lang/Object;II)V"), (148, .methodref 305 306), (0, .class_ 307), (0, .nameAndType 308 309), (0, u "java/lang/Math"), (0, u "min"), (0, u "(II)I"), (29, .methodref 14 340), (0, .nameAndType 341 342), (0, u "copyOfRangeByte"), (0, u "([BII)[B"), (0, .methodref 14 344), (0, .nameAndType 345 346), (0, u "checkLength"), (0, u "(II)V"), (28, .class_ 376), (0, u "java/util/Arrays$ArrayList"), (68, u "$assertionsDisabled"), (269, u "MIN_ARRAY_SORT_GRAN"), (0, u "I"), (2, u "INSERTIONSORT_THRESHOLD"), (255, .class_ 976), (0, u "java/util/Arrays$ArrayItr")] 52

def k18m0 : Method := { name := "<init>", desc := "()V", sig := { parameters := [], returnType := none }, accessFlags := 2, code := none }
def k18c1 : Code := { maxStack := 4, maxLocals := 2, code := jdk_65_method_131_code, exceptionTable := #[], attributes := #[] }
def k18m1 : Method := { name := "checkLength", desc := "(II)V", sig := { parameters := [.int, .int], returnType := none }, accessFlags := 10, code := some k18c1 }
def k18c2 : Code := { maxStack := 3, maxLocals := 3, code := jdk_65_method_132_code, exceptionTable := #[], attributes := #[] }
def k18m2 : Method := { name := "copyOfRange", desc := "([BII)[B", sig := { parameters := [(.array .byte), .int, .int], returnType := some (.array .byte) }, accessFlags := 9, code := some k18c2 }
def k18c3 : Code := { maxStack := 6, maxLocals := 5, code := jdk_65_method_133_code, exceptionTable := #[], attributes := #[] }
def k18m3 : Method := { name := "copyOfRangeByte", desc := "([BII)[B", sig := { parameters := [(.array .byte), .int, .int], returnType := some (.array .byte) }, accessFlags := 10, code := some k18c3 }
/-- java/util/Arrays -/
def k18 : Class := { plain "java/util/Arrays" (some 0) with
  accessFlags := 49
  interfaces := #[]
  cf := some (fileOf pool18 14 #[.nestMembers #[975, 375, 113, 74]] #[{ accessFlags := 2, nameIndex := 5, descriptorIndex := 6, attributes := #[] }, { accessFlags := 10, nameIndex := 345, descriptorIndex := 346, attributes := #[] }, { accessFlags := 9, nameIndex := 139, descriptorIndex := 342, attributes := #[] }, { accessFlags := 10, nameIndex := 341, descriptorIndex := 342, attributes := #[] }] 49 2 #[] #[{ accessFlags := 26, nameIndex := 715, descriptorIndex := 716, attributes := #[] }, { accessFlags := 26, nameIndex := 719, descriptorIndex := 716, attributes := #[] }, { accessFlags := 4120, nameIndex := 445, descriptorIndex := 117, attributes := #[] }])
  fields := #[{ name := "MIN_ARRAY_SORT_GRAN", type := .int, accessFlags := 26, slot := 0, constantValue := 0 }, { name := "INSERTIONSORT_THRESHOLD", type := .int, accessFlags := 26, slot := 1, constantValue := 0 }, { name := "$assertionsDisabled", type := .boolean, accessFlags := 4120, slot := 2, constantValue := 0 }]
  methods := #[k18m0, k18m1, k18m2, k18m3]
  instanceTypes := #[]
  staticTypes := #[.int, .int, .boolean]
  resolved := Array.replicate 1029 none
  statics := none }

def pool19 : Array CpInfo := pool [(1, .class_ 2), (0, u "java/lang/Math"), (1, .class_ 6), (1, u "java/lang/Object"), (0, u "<init>"), (0, u "()V"), (89, .class_ 100), (1, u "java/lang/Math$RandomNumberGeneratorHolder"), (71, u "negativeZeroFloatBits"), (0, u "J"), (2, u "negativeZeroDoubleBits"), (24, u "min"), (43, u "$assertionsDisabled"), (0, u "Z"), (88, u "(II)I"), (2, u "twoToTheDoubleScaleDown"), (0, u "D"), (4, u "twoToTheDoubleScaleUp"), (9, u "E"), (3, u "PI"), (2, u "TAU"), (2, u "DEGREES_TO_RADIANS"), (0, u "RADIANS_TO_DEGREES")] 94

def k19m0 : Method := { name := "<init>", desc := "()V", sig := { parameters := [], returnType := none }, accessFlags := 2, code := none }
def k19c1 : Code := { maxStack := 2, maxLocals := 2, code := jdk_29_method_69_code, exceptionTable := #[], attributes := #[] }
def k19m1 : Method := { name := "min", desc := "(II)I", sig := { parameters := [.int, .int], returnType := some .int }, accessFlags := 9, code := some k19c1 }
/-- java/lang/Math -/
def k19 : Class := { plain "java/lang/Math" (some 0) with
  accessFlags := 49
  interfaces := #[]
  cf := some (fileOf pool19 1 #[.nestMembers #[98]] #[{ accessFlags := 2, nameIndex := 7, descriptorIndex := 8, attributes := #[] }, { accessFlags := 9, nameIndex := 201, descriptorIndex := 335, attributes := #[] }] 49 4 #[] #[{ accessFlags := 25, nameIndex := 354, descriptorIndex := 339, attributes := #[] }, { accessFlags := 25, nameIndex := 358, descriptorIndex := 339, attributes := #[] }, { accessFlags := 25, nameIndex := 361, descriptorIndex := 339, attributes := #[] }, { accessFlags := 26, nameIndex := 364, descriptorIndex := 339, attributes := #[] }, { accessFlags := 26, nameIndex := 365, descriptorIndex := 339, attributes := #[] }, { accessFlags := 26, nameIndex := 172, descriptorIndex := 173, attributes := #[] }, { accessFlags := 26, nameIndex := 176, descriptorIndex := 173, attributes := #[] }, { accessFlags := 8, nameIndex := 344, descriptorIndex := 339, attributes := #[] }, { accessFlags := 8, nameIndex := 338, descriptorIndex := 339, attributes := #[] }, { accessFlags := 4120, nameIndex := 245, descriptorIndex := 246, attributes := #[] }])
  fields := #[{ name := "E", type := .double, accessFlags := 25, slot := 0, constantValue := 0 }, { name := "PI", type := .double, accessFlags := 25, slot := 1, constantValue := 0 }, { name := "TAU", type := .double, accessFlags := 25, slot := 2, constantValue := 0 }, { name := "DEGREES_TO_RADIANS", type := .double, accessFlags := 26, slot := 3, constantValue := 0 }, { name := "RADIANS_TO_DEGREES", type := .double, accessFlags := 26, slot := 4, constantValue := 0 }, { name := "negativeZeroFloatBits", type := .long, accessFlags := 26, slot := 5, constantValue := 0 }, { name := "negativeZeroDoubleBits", type := .long, accessFlags := 26, slot := 6, constantValue := 0 }, { name := "twoToTheDoubleScaleUp", type := .double, accessFlags := 8, slot := 7, constantValue := 0 }, { name := "twoToTheDoubleScaleDown", type := .double, accessFlags := 8, slot := 8, constantValue := 0 }, { name := "$assertionsDisabled", type := .boolean, accessFlags := 4120, slot := 9, constantValue := 0 }]
  methods := #[k19m0, k19m1]
  instanceTypes := #[]
  staticTypes := #[.double, .double, .double, .double, .double, .long, .long, .double, .double, .boolean]
  resolved := Array.replicate 460 none
  statics := none }

def pool20 : Array CpInfo := pool [(1, .class_ 2), (0, u "java/lang/String"), (1, .class_ 6), (1, u "java/lang/Object"), (0, u "<init>"), (0, u "()V"), (0, .methodref 1 10), (0, .nameAndType 11 12), (0, u "checkIndex"), (0, u "(II)V"), (1, .class_ 16), (1, u "java/lang/StringLatin1"), (36, u "([BI)C"), (67, u "$assertionsDisabled"), (0, u "Z"), (98, .class_ 223), (1, u "java/lang/StringLatin1$LinesSpliterator"), (28, u "charAt"), (137, .class_ 391), (0, u "java/lang/StringLatin1$CharsSpliterator")] 3

def k20m0 : Method := { name := "<init>", desc := "()V", sig := { parameters := [], returnType := none }, accessFlags := 0, code := none }
def k20c1 : Code := { maxStack := 2, maxLocals := 2, code := jdk_43_method_2_code, exceptionTable := #[], attributes := #[] }
def k20m1 : Method := { name := "charAt", desc := "([BI)C", sig := { parameters := [(.array .byte), .int], returnType := some .char }, accessFlags := 9, code := some k20c1 }
/-- java/lang/StringLatin1 -/
def k20 : Class := { plain "java/lang/StringLatin1" (some 0) with
  accessFlags := 48
  interfaces := #[]
  cf := some (fileOf pool20 14 #[.nestMembers #[390, 221]] #[{ accessFlags := 0, nameIndex := 7, descriptorIndex := 8, attributes := #[] }, { accessFlags := 9, nameIndex := 252, descriptorIndex := 53, attributes := #[] }] 48 4 #[] #[{ accessFlags := 4120, nameIndex := 121, descriptorIndex := 122, attributes := #[] }])
  fields := #[{ name := "$assertionsDisabled", type := .boolean, accessFlags := 4120, slot := 0, constantValue := 0 }]
  methods := #[k20m0, k20m1]
  instanceTypes := #[]
  staticTypes := #[.boolean]
  resolved := Array.replicate 395 none
  statics := none }

def pool21 : Array CpInfo := pool [(2, .class_ 4), (1, u "java/lang/Object"), (0, u "<init>"), (0, u "()V"), (17, .class_ 26), (1, u "jdk/internal/util/Preconditions"), (6, u "checkIndex"), (21, .class_ 56), (0, u "jdk/internal/util/Preconditions$4"), (57, .class_ 115), (0, u "jdk/internal/util/Preconditions$1"), (7, u "SIOOBE_FORMATTER"), (0, u "Ljava/util/function/BiFunction;"), (0, .class_ 126), (0, u "jdk/internal/util/Preconditions$2"), (3, u "AIOOBE_FORMATTER"), (0, .class_ 132), (0, u "jdk/internal/util/Preconditions$3"), (3, u "IOOBE_FORMATTER"), (41, u "(IILjava/util/function/BiFunction;)I")] 15

def k21m0 : Method := { name := "<init>", desc := "()V", sig := { parameters := [], returnType := none }, accessFlags := 1, code := none }
def k21c1 : Code := { maxStack := 3, maxLocals := 3, code := jdk_41_method_11_code, exceptionTable := #[], attributes := #[] }
def k21m1 : Method := { name := "checkIndex", desc := "(IILjava/util/function/BiFunction;)I", sig := { parameters := [.int, .int, (.object "java/util/function/BiFunction")], returnType := some .int }, accessFlags := 9, code := some k21c1 }
/-- jdk/internal/util/Preconditions -/
def k21 : Class := { plain "jdk/internal/util/Preconditions" (some 0) with
  accessFlags := 33
  interfaces := #[]
  cf := some (fileOf pool21 24 #[.nestMembers #[55, 131, 125, 114]] #[{ accessFlags := 1, nameIndex := 5, descriptorIndex := 6, attributes := #[] }, { accessFlags := 9, nameIndex := 33, descriptorIndex := 178, attributes := #[] }] 33 2 #[] #[{ accessFlags := 25, nameIndex := 123, descriptorIndex := 124, attributes := #[] }, { accessFlags := 25, nameIndex := 130, descriptorIndex := 124, attributes := #[] }, { accessFlags := 25, nameIndex := 136, descriptorIndex := 124, attributes := #[] }])
  fields := #[{ name := "SIOOBE_FORMATTER", type := (.object "java/util/function/BiFunction"), accessFlags := 25, slot := 0, constantValue := 0 }, { name := "AIOOBE_FORMATTER", type := (.object "java/util/function/BiFunction"), accessFlags := 25, slot := 1, constantValue := 0 }, { name := "IOOBE_FORMATTER", type := (.object "java/util/function/BiFunction"), accessFlags := 25, slot := 2, constantValue := 0 }]
  methods := #[k21m0, k21m1]
  instanceTypes := #[]
  staticTypes := #[(.object "java/util/function/BiFunction"), (.object "java/util/function/BiFunction"), (.object "java/util/function/BiFunction")]
  resolved := Array.replicate 194 none
  statics := some 2 }

def pool22 : Array CpInfo := pool [(6, .class_ 8), (1, u "java/lang/Object"), (0, u "<init>"), (0, u "()V"), (1, .class_ 14), (1, u "java/lang/StringUTF16"), (31, u "$assertionsDisabled"), (0, u "Z"), (13, u "HI_BYTE_SHIFT"), (0, u "I"), (2, u "LO_BYTE_SHIFT"), (49, .methodref 12 116), (0, .nameAndType 117 118), (0, u "compress"), (0, u "([CI[BII)I"), (3, u "([CII)[B"), (138, u "coderFromArrayLen"), (0, u "([BI)B"), (106, .class_ 371), (1, u "java/lang/StringUTF16$LinesSpliterator"), (58, u "MAX_LENGTH"), (196, .class_ 628), (0, u "java/lang/StringUTF16$CodePointsSpliterator"), (0, .class_ 630), (0, u "java/lang/StringUTF16$CharsSpliterator")] 4

def k22m0 : Method := { name := "<init>", desc := "()V", sig := { parameters := [], returnType := none }, accessFlags := 0, code := none }
def k22c1 : Code := { maxStack := 2, maxLocals := 2, code := jdk_52_method_15_code, exceptionTable := #[], attributes := #[] }
def k22m1 : Method := { name := "coderFromArrayLen", desc := "([BI)B", sig := { parameters := [(.array .byte), .int], returnType := some .byte }, accessFlags := 8, code := some k22c1 }
def k22c2 : Code := { maxStack := 5, maxLocals := 6, code := jdk_52_method_16_code, exceptionTable := #[], attributes := #[] }
def k22m2 : Method := { name := "compress", desc := "([CII)[B", sig := { parameters := [(.array .char), .int, .int], returnType := some (.array .byte) }, accessFlags := 9, code := some k22c2 }
def k22c3 : Code := { maxStack := 3, maxLocals := 7, code := jdk_52_method_21_code, exceptionTable := #[], attributes := #[] }
def k22m3 : Method := { name := "compress", desc := "([CI[BII)I", sig := { parameters := [(.array .char), .int, (.array .byte), .int, .int], returnType := some .int }, accessFlags := 9, code := some k22c3 }
/-- java/lang/StringUTF16 -/
def k22 : Class := { plain "java/lang/StringUTF16" (some 0) with
  accessFlags := 48
  interfaces := #[]
  cf := some (fileOf pool22 12 #[.nestMembers #[627, 629, 369]] #[{ accessFlags := 0, nameIndex := 9, descriptorIndex := 10, attributes := #[] }, { accessFlags := 8, nameIndex := 261, descriptorIndex := 262, attributes := #[] }, { accessFlags := 9, nameIndex := 117, descriptorIndex := 122, attributes := #[] }, { accessFlags := 9, nameIndex := 117, descriptorIndex := 118, attributes := #[] }] 48 6 #[] #[{ accessFlags := 26, nameIndex := 61, descriptorIndex := 62, attributes := #[] }, { accessFlags := 26, nameIndex := 65, descriptorIndex := 62, attributes := #[] }, { accessFlags := 24, nameIndex := 430, descriptorIndex := 62, attributes := #[] }, { accessFlags := 4120, nameIndex := 46, descriptorIndex := 47, attributes := #[] }])
  fields := #[{ name := "HI_BYTE_SHIFT", type := .int, accessFlags := 26, slot := 0, constantValue := 0 }, { name := "LO_BYTE_SHIFT", type := .int, accessFlags := 26, slot := 1, constantValue := 0 }, { name := "MAX_LENGTH", type := .int, accessFlags := 24, slot := 2, constantValue := 0 }, { name := "$assertionsDisabled", type := .boolean, accessFlags := 4120, slot := 3, constantValue := 0 }]
  methods := #[k22m0, k22m1, k22m2, k22m3]
  instanceTypes := #[]
  staticTypes := #[.int, .int, .int, .boolean]
  resolved := Array.replicate 635 none
  statics := none }

def pool23 : Array CpInfo := pool [(9, u "<init>"), (6, .class_ 18), (1, u "java/lang/Object"), (0, u "()V"), (1, .class_ 23), (1, u "jdk/internal/util/ArraysSupport"), (0, u "LOG2_ARRAY_LONG_INDEX_SCALE"), (0, u "I"), (2, u "U"), (0, u "Ljdk/internal/misc/Unsafe;"), (8, u "BIG_ENDIAN"), (0, u "Z"), (8, u "LOG2_BYTE_BIT_SIZE"), (4, u "LOG2_ARRAY_INT_INDEX_SCALE"), (54, u "JLA"), (0, u "Ljdk/internal/access/JavaLangAccess;"), (11, u "LOG2_ARRAY_BOOLEAN_INDEX_SCALE"), (9, u "LOG2_ARRAY_BYTE_INDEX_SCALE"), (5, u "LOG2_ARRAY_CHAR_INDEX_SCALE"), (5, u "LOG2_ARRAY_SHORT_INDEX_SCALE"), (18, u "LOG2_ARRAY_FLOAT_INDEX_SCALE"), (24, u "LOG2_ARRAY_DOUBLE_INDEX_SCALE"), (89, u "T_BOOLEAN"), (2, u "T_CHAR"), (1, u "T_FLOAT"), (1, u "T_DOUBLE"), (1, u "T_BYTE"), (1, u "T_SHORT"), (1, u "T_INT"), (1, u "T_LONG"), (1, u "SOFT_MAX_ARRAY_LENGTH")] 83

def k23m0 : Method := { name := "<init>", desc := "()V", sig := { parameters := [], returnType := none }, accessFlags := 2, code := none }
/-- jdk/internal/util/ArraysSupport -/
def k23 : Class := { plain "jdk/internal/util/ArraysSupport" (some 0) with
  accessFlags := 33
  interfaces := #[]
  cf := some (fileOf pool23 21 #[] #[{ accessFlags := 2, nameIndex := 9, descriptorIndex := 19, attributes := #[] }] 33 16 #[] #[{ accessFlags := 24, nameIndex := 28, descriptorIndex := 29, attributes := #[] }, { accessFlags := 26, nameIndex := 38, descriptorIndex := 39, attributes := #[] }, { accessFlags := 25, nameIndex := 121, descriptorIndex := 25, attributes := #[] }, { accessFlags := 25, nameIndex := 131, descriptorIndex := 25, attributes := #[] }, { accessFlags := 25, nameIndex := 137, descriptorIndex := 25, attributes := #[] }, { accessFlags := 25, nameIndex := 143, descriptorIndex := 25, attributes := #[] }, { accessFlags := 25, nameIndex := 53, descriptorIndex := 25, attributes := #[] }, { accessFlags := 25, nameIndex := 24, descriptorIndex := 25, attributes := #[] }, { accessFlags := 25, nameIndex := 162, descriptorIndex := 25, attributes := #[] }, { accessFlags := 25, nameIndex := 187, descriptorIndex := 25, attributes := #[] }, { accessFlags := 26, nameIndex := 48, descriptorIndex := 25, attributes := #[] }, { accessFlags := 25, nameIndex := 277, descriptorIndex := 25, attributes := #[] }, { accessFlags := 25, nameIndex := 280, descriptorIndex := 25, attributes := #[] }, { accessFlags := 25, nameIndex := 282, descriptorIndex := 25, attributes := #[] }, { accessFlags := 25, nameIndex := 284, descriptorIndex := 25, attributes := #[] }, { accessFlags := 25, nameIndex := 286, descriptorIndex := 25, attributes := #[] }, { accessFlags := 25, nameIndex := 288, descriptorIndex := 25, attributes := #[] }, { accessFlags := 25, nameIndex := 290, descriptorIndex := 25, attributes := #[] }, { accessFlags := 25, nameIndex := 292, descriptorIndex := 25, attributes := #[] }, { accessFlags := 26, nameIndex := 108, descriptorIndex := 109, attributes := #[] }, { accessFlags := 25, nameIndex := 294, descriptorIndex := 25, attributes := #[] }])
  fields := #[{ name := "U", type := (.object "jdk/internal/misc/Unsafe"), accessFlags := 24, slot := 0, constantValue := 0 }, { name := "BIG_ENDIAN", type := .boolean, accessFlags := 26, slot := 1, constantValue := 0 }, { name := "LOG2_ARRAY_BOOLEAN_INDEX_SCALE", type := .int, accessFlags := 25, slot := 2, constantValue := 0 }, { name := "LOG2_ARRAY_BYTE_INDEX_SCALE", type := .int, accessFlags := 25, slot := 3, constantValue := 0 }, { name := "LOG2_ARRAY_CHAR_INDEX_SCALE", type := .int, accessFlags := 25, slot := 4, constantValue := 0 }, { name := "LOG2_ARRAY_SHORT_INDEX_SCALE", type := .int, accessFlags := 25, slot := 5, constantValue := 0 }, { name := "LOG2_ARRAY_INT_INDEX_SCALE", type := .int, accessFlags := 25, slot := 6, constantValue := 0 }, { name := "LOG2_ARRAY_LONG_INDEX_SCALE", type := .int, accessFlags := 25, slot := 7, constantValue := 0 }, { name := "LOG2_ARRAY_FLOAT_INDEX_SCALE", type := .int, accessFlags := 25, slot := 8, constantValue := 0 }, { name := "LOG2_ARRAY_DOUBLE_INDEX_SCALE", type := .int, accessFlags := 25, slot := 9, constantValue := 0 }, { name := "LOG2_BYTE_BIT_SIZE", type := .int, accessFlags := 26, slot := 10, constantValue := 0 }, { name := "T_BOOLEAN", type := .int, accessFlags := 25, slot := 11, constantValue := 0 }, { name := "T_CHAR", type := .int, accessFlags := 25, slot := 12, constantValue := 0 }, { name := "T_FLOAT", type := .int, accessFlags := 25, slot := 13, constantValue := 0 }, { name := "T_DOUBLE", type := .int, accessFlags := 25, slot := 14, constantValue := 0 }, { name := "T_BYTE", type := .int, accessFlags := 25, slot := 15, constantValue := 0 }, { name := "T_SHORT", type := .int, accessFlags := 25, slot := 16, constantValue := 0 }, { name := "T_INT", type := .int, accessFlags := 25, slot := 17, constantValue := 0 }, { name := "T_LONG", type := .int, accessFlags := 25, slot := 18, constantValue := 0 }, { name := "JLA", type := (.object "jdk/internal/access/JavaLangAccess"), accessFlags := 26, slot := 19, constantValue := 0 }, { name := "SOFT_MAX_ARRAY_LENGTH", type := .int, accessFlags := 25, slot := 20, constantValue := 0 }]
  methods := #[k23m0]
  instanceTypes := #[]
  staticTypes := #[(.object "jdk/internal/misc/Unsafe"), .boolean, .int, .int, .int, .int, .int, .int, .int, .int, .int, .int, .int, .int, .int, .int, .int, .int, .int, (.object "jdk/internal/access/JavaLangAccess"), .int]
  resolved := Array.replicate 378 none
  statics := none }

def pool24 : Array CpInfo := pool [(2, .class_ 4), (1, u "java/lang/Object"), (0, u "<init>"), (0, u "()V"), (12, .class_ 20), (0, u "java/util/Collections"), (63, u "r"), (0, u "Ljava/util/Random;"), (80, .class_ 167), (0, u "java/util/Collections$UnmodifiableCollection"), (6, .class_ 175), (0, u "java/util/Collections$UnmodifiableSequencedCollection"), (6, .class_ 183), (0, u "java/util/Collections$UnmodifiableSet"), (6, .class_ 191), (0, u "java/util/Collections$UnmodifiableSequencedSet"), (6, .class_ 199), (0, u "java/util/Collections$UnmodifiableSortedSet"), (6, .class_ 207), (0, u "java/util/Collections$UnmodifiableNavigableSet"), (4, .class_ 213), (0, u "java/util/Collections$UnmodifiableList"), (1, .class_ 216), (0, u "java/util/Collections$UnmodifiableRandomAccessList"), (6, .class_ 224), (0, u "java/util/Collections$UnmodifiableMap"), (6, .class_ 232), (0, u "java/util/Collections$UnmodifiableSequencedMap"), (4, .class_ 238), (0, u "java/util/Collections$UnmodifiableSortedMap"), (6, .class_ 246), (0, u "java/util/Collections$UnmodifiableNavigableMap"), (3, .class_ 251), (0, u "java/util/Collections$SynchronizedCollection"), (4, .class_ 257), (0, u "java/util/Collections$SynchronizedSet"), (4, .class_ 263), (0, u "java/util/Collections$SynchronizedSortedSet"), (1, .class_ 266), (0, u "java/util/Collections$SynchronizedNavigableSet"), (1, .class_ 269), (0, u "java/util/Collections$SynchronizedRandomAccessList"), (1, .class_ 272), (0, u "java/util/Collections$SynchronizedList"), (5, .class_ 279), (0, u "java/util/Collections$SynchronizedMap"), (1, .class_ 282), (0, u "java/util/Collections$SynchronizedSortedMap"), (1, .class_ 285), (0, u "java/util/Collections$SynchronizedNavigableMap"), (1, .class_ 288), (0, u "java/util/Collections$CheckedCollection"), (11, .class_ 301), (0, u "java/util/Collections$CheckedQueue"), (3, .class_ 306), (0, u "java/util/Collections$CheckedSet"), (3, .class_ 311), (0, u "java/util/Collections$CheckedSortedSet"), (3, .class_ 316), (0, u "java/util/Collections$CheckedNavigableSet"), (3, .class_ 321), (0, u "java/util/Collections$CheckedRandomAccessList"), (3, .class_ 326), (0, u "java/util/Collections$CheckedList"), (1, .class_ 329), (0, u "java/util/Collections$CheckedMap"), (3, .class_ 334), (0, u "java/util/Collections$CheckedSortedMap"), (3, .class_ 339), (0, u "java/util/Collections$CheckedNavigableMap"), (4, .class_ 346), (1, u "java/util/Collections$EmptyIterator"), (3, .class_ 352), (1, u "java/util/Collections$EmptyListIterator"), (2, .class_ 357), (1, u "java/util/Collections$EmptyEnumeration"), (4, u "EMPTY_SET"), (0, u "Ljava/util/Set;"), (6, u "EMPTY_LIST"), (0, u "Ljava/util/List;"), (2, u "EMPTY_MAP"), (0, u "Ljava/util/Map;"), (4, .class_ 381), (0, u "java/util/Collections$SingletonSet"), (2, .class_ 385), (0, u "java/util/Collections$1"), (1, .class_ 388), (0, u "java/util/Collections$2"), (1, .class_ 391), (0, u "java/util/Collections$SingletonList"), (1, .class_ 394), (0, u "java/util/Collections$SingletonMap"), (22, .class_ 418), (0, u "java/util/Collections$CopiesList"), (4, .class_ 425), (1, u "java/util/Collections$ReverseComparator"), (8, .class_ 435), (0, u "java/util/Collections$ReverseComparator2"), (6, .class_ 443), (0, u "java/util/Collections$3"), (25, .class_ 470), (0, u "java/util/Collections$SetFromMap"), (2, .class_ 474), (0, u "java/util/Collections$SequencedSetFromMap"), (3, .class_ 479), (0, u "java/util/Collections$AsLIFOQueue"), (11, .class_ 492), (0, u "java/util/Collections$EmptySet"), (1, .class_ 495), (0, u "java/util/Collections$EmptyList"), (1, .class_ 498), (0, u "java/util/Collections$EmptyMap"), (1, u "BINARYSEARCH_THRESHOLD"), (0, u "I"), (2, u "REVERSE_THRESHOLD"), (1, u "SHUFFLE_THRESHOLD"), (1, u "FILL_THRESHOLD"), (1, u "ROTATE_THRESHOLD"), (1, u "COPY_THRESHOLD"), (1, u "REPLACEALL_THRESHOLD"), (1, u "INDEXOFSUBLIST_THRESHOLD"), (333, .class_ 851), (0, u "java/util/Collections$CheckedMap$CheckedEntrySet"), (0, .class_ 853), (0, u "java/util/Collections$CheckedMap$CheckedEntrySet$CheckedEntry"), (0, .class_ 855), (0, u "java/util/Collections$CheckedMap$CheckedEntrySet$1"), (0, .class_ 857), (0, u "java/util/Collections$CheckedList$1"), (0, .class_ 859), (0, u "java/util/Collections$CheckedCollection$1"), (0, .class_ 861), (0, u "java/util/Collections$UnmodifiableNavigableMap$EmptyNavigableMap"), (0, .class_ 863), (0, u "java/util/Collections$UnmodifiableMap$UnmodifiableEntrySet"), (0, .class_ 865), (0, u "java/util/Collections$UnmodifiableMap$UnmodifiableEntrySet$UnmodifiableEntry"), (0, .class_ 867), (0, u "java/util/Collections$UnmodifiableMap$UnmodifiableEntrySet$UnmodifiableEntrySetSpliterator"), (0, .class_ 869), (0, u "java/util/Collections$UnmodifiableMap$UnmodifiableEntrySet$1"), (0, .class_ 871), (0, u "java/util/Collections$UnmodifiableList$1"), (0, .class_ 873), (0, u "java/util/Collections$UnmodifiableNavigableSet$EmptyNavigableSet"), (0, .class_ 875), (0, u "java/util/Collections$UnmodifiableCollection$1")] 57

def k24m0 : Method := { name := "<init>", desc := "()V", sig := { parameters := [], returnType := none }, accessFlags := 2, code := none }
/-- java/util/Collections -/
def k24 : Class := { plain "java/util/Collections" (some 0) with
  accessFlags := 33
  interfaces := #[]
  cf := some (fileOf pool24 19 #[.nestMembers #[478, 473, 469, 434, 423, 417, 393, 390, 380, 497, 494, 491, 355, 350, 344, 338, 333, 328, 850, 852, 854, 320, 325, 856, 315, 310, 305, 300, 287, 858, 284, 281, 278, 268, 271, 265, 262, 256, 250, 245, 860, 237, 231, 223, 862, 864, 866, 868, 215, 212, 870, 206, 872, 198, 190, 182, 174, 166, 874, 442, 387, 384]] #[{ accessFlags := 2, nameIndex := 5, descriptorIndex := 6, attributes := #[] }] 33 2 #[] #[{ accessFlags := 26, nameIndex := 500, descriptorIndex := 501, attributes := #[] }, { accessFlags := 26, nameIndex := 504, descriptorIndex := 501, attributes := #[] }, { accessFlags := 26, nameIndex := 506, descriptorIndex := 501, attributes := #[] }, { accessFlags := 26, nameIndex := 508, descriptorIndex := 501, attributes := #[] }, { accessFlags := 26, nameIndex := 510, descriptorIndex := 501, attributes := #[] }, { accessFlags := 26, nameIndex := 512, descriptorIndex := 501, attributes := #[] }, { accessFlags := 26, nameIndex := 514, descriptorIndex := 501, attributes := #[] }, { accessFlags := 26, nameIndex := 516, descriptorIndex := 501, attributes := #[] }, { accessFlags := 10, nameIndex := 84, descriptorIndex := 85, attributes := #[] }, { accessFlags := 25, nameIndex := 362, descriptorIndex := 363, attributes := #[] }, { accessFlags := 25, nameIndex := 370, descriptorIndex := 371, attributes := #[] }, { accessFlags := 25, nameIndex := 374, descriptorIndex := 375, attributes := #[] }])
  fields := #[{ name := "BINARYSEARCH_THRESHOLD", type := .int, accessFlags := 26, slot := 0, constantValue := 0 }, { name := "REVERSE_THRESHOLD", type := .int, accessFlags := 26, slot := 1, constantValue := 0 }, { name := "SHUFFLE_THRESHOLD", type := .int, accessFlags := 26, slot := 2, constantValue := 0 }, { name := "FILL_THRESHOLD", type := .int, accessFlags := 26, slot := 3, constantValue := 0 }, { name := "ROTATE_THRESHOLD", type := .int, accessFlags := 26, slot := 4, constantValue := 0 }, { name := "COPY_THRESHOLD", type := .int, accessFlags := 26, slot := 5, constantValue := 0 }, { name := "REPLACEALL_THRESHOLD", type := .int, accessFlags := 26, slot := 6, constantValue := 0 }, { name := "INDEXOFSUBLIST_THRESHOLD", type := .int, accessFlags := 26, slot := 7, constantValue := 0 }, { name := "r", type := (.object "java/util/Random"), accessFlags := 10, slot := 8, constantValue := 0 }, { name := "EMPTY_SET", type := (.object "java/util/Set"), accessFlags := 25, slot := 9, constantValue := 0 }, { name := "EMPTY_LIST", type := (.object "java/util/List"), accessFlags := 25, slot := 10, constantValue := 0 }, { name := "EMPTY_MAP", type := (.object "java/util/Map"), accessFlags := 25, slot := 11, constantValue := 0 }]
  methods := #[k24m0]
  instanceTypes := #[]
  staticTypes := #[.int, .int, .int, .int, .int, .int, .int, .int, (.object "java/util/Random"), (.object "java/util/Set"), (.object "java/util/List"), (.object "java/util/Map")]
  resolved := Array.replicate 933 none
  statics := some 3 }

def pool25 : Array CpInfo := pool [(8, .class_ 10), (1, u "java/lang/Iterable"), (24, .class_ 36), (0, u "java/lang/Object")] 25

/-- java/lang/Iterable -/
def k25 : Class := { plain "java/lang/Iterable" (some 0) with
  accessFlags := 1537
  interfaces := #[]
  cf := some (fileOf pool25 8 #[] #[] 1537 35 #[] #[])
  fields := #[]
  methods := #[]
  instanceTypes := #[]
  staticTypes := #[]
  resolved := Array.replicate 62 none
  statics := none }

def pool26 : Array CpInfo := pool [(10, .class_ 12), (1, u "java/util/Collection"), (47, .class_ 61), (0, u "java/lang/Object"), (0, .class_ 63), (0, u "java/lang/Iterable")] 51

/-- java/util/Collection -/
def k26 : Class := { plain "java/util/Collection" (some 0) with
  accessFlags := 1537
  interfaces := #[25]
  cf := some (fileOf pool26 10 #[] #[] 1537 60 #[62] #[])
  fields := #[]
  methods := #[]
  instanceTypes := #[]
  staticTypes := #[]
  resolved := Array.replicate 115 none
  statics := none }

def pool27 : Array CpInfo := pool [(2, .class_ 4), (1, u "java/lang/Object"), (0, u "<init>"), (0, u "()V"), (1, .class_ 10), (1, u "java/util/AbstractCollection"), (66, .class_ 78), (0, u "java/util/Collection")] 81

def k27m0 : Method := { name := "<init>", desc := "()V", sig := { parameters := [], returnType := none }, accessFlags := 4, code := none }
/-- java/util/AbstractCollection -/
def k27 : Class := { plain "java/util/AbstractCollection" (some 0) with
  accessFlags := 1057
  interfaces := #[26]
  cf := some (fileOf pool27 8 #[] #[{ accessFlags := 4, nameIndex := 5, descriptorIndex := 6, attributes := #[] }] 1057 2 #[77] #[])
  fields := #[]
  methods := #[k27m0]
  instanceTypes := #[]
  staticTypes := #[]
  resolved := Array.replicate 160 none
  statics := none }

def pool28 : Array CpInfo := pool [(8, .class_ 10), (1, u "java/util/SequencedCollection"), (15, .class_ 27), (0, u "java/lang/Object"), (0, .class_ 29), (0, u "java/util/Collection")] 27

/-- java/util/SequencedCollection -/
def k28 : Class := { plain "java/util/SequencedCollection" (some 0) with
  accessFlags := 1537
  interfaces := #[26]
  cf := some (fileOf pool28 8 #[] #[] 1537 26 #[28] #[])
  fields := #[]
  methods := #[]
  instanceTypes := #[]
  staticTypes := #[]
  resolved := Array.replicate 57 none
  statics := none }

def pool29 : Array CpInfo := pool [(8, .class_ 10), (1, u "java/util/List"), (92, .class_ 104), (0, u "java/lang/Object"), (15, .class_ 121), (0, u "java/util/SequencedCollection")] 129

/-- java/util/List -/
def k29 : Class := { plain "java/util/List" (some 0) with
  accessFlags := 1537
  interfaces := #[28]
  cf := some (fileOf pool29 8 #[] #[] 1537 103 #[120] #[])
  fields := #[]
  methods := #[]
  instanceTypes := #[]
  staticTypes := #[]
  resolved := Array.replicate 251 none
  statics := none }

def pool30 : Array CpInfo := pool [(2, .class_ 4), (1, u "java/util/AbstractCollection"), (0, u "<init>"), (0, u "()V"), (1, .class_ 10), (1, u "java/util/AbstractList"), (0, u "modCount"), (0, u "I"), (64, .class_ 78), (0, u "java/util/AbstractList$Itr"), (3, .class_ 83), (0, u "java/util/AbstractList$ListItr"), (9, .class_ 94), (0, u "java/util/AbstractList$RandomAccessSubList"), (3, .class_ 99), (0, u "java/util/AbstractList$SubList"), (33, .class_ 134), (0, u "java/util/List"), (73, .class_ 209), (0, u "java/util/AbstractList$SubList$1"), (0, .class_ 211), (0, u "java/util/AbstractList$RandomAccessSpliterator")] 6

def k30m0 : Method := { name := "<init>", desc := "()V", sig := { parameters := [], returnType := none }, accessFlags := 4, code := none }
/-- java/util/AbstractList -/
def k30 : Class := { plain "java/util/AbstractList" (some 27) with
  accessFlags := 1057
  interfaces := #[29]
  cf := some (fileOf pool30 8 #[.nestMembers #[93, 98, 208, 210, 82, 77]] #[{ accessFlags := 4, nameIndex := 5, descriptorIndex := 6, attributes := #[] }] 1057 2 #[133] #[{ accessFlags := 132, nameIndex := 11, descriptorIndex := 12, attributes := #[] }])
  fields := #[{ name := "modCount", type := .int, accessFlags := 132, slot := 0, constantValue := 0 }]
  methods := #[k30m0]
  instanceTypes := #[.int]
  staticTypes := #[]
  resolved := Array.replicate 218 none
  statics := none }

def pool31 : Array CpInfo := pool [(1, .class_ 2), (0, u "java/util/RandomAccess"), (0, .class_ 4), (0, u "java/lang/Object")] 2

/-- java/util/RandomAccess -/
def k31 : Class := { plain "java/util/RandomAccess" (some 0) with
  accessFlags := 1537
  interfaces := #[]
  cf := some (fileOf pool31 1 #[] #[] 1537 3 #[] #[])
  fields := #[]
  methods := #[]
  instanceTypes := #[]
  staticTypes := #[]
  resolved := Array.replicate 7 none
  statics := none }

def pool32 : Array CpInfo := pool [(2, .class_ 4), (1, u "java/util/AbstractList"), (0, u "<init>"), (0, u "()V"), (1, .class_ 10), (1, u "java/util/Collections"), (54, .class_ 66), (0, u "java/util/Collections$EmptyList"), (0, .class_ 68), (0, u "java/util/RandomAccess"), (0, .class_ 70), (0, u "java/io/Serializable"), (0, u "serialVersionUID"), (0, u "J")] 77

def k32m0 : Method := { name := "<init>", desc := "()V", sig := { parameters := [], returnType := none }, accessFlags := 2, code := none }
/-- java/util/Collections$EmptyList -/
def k32 : Class := { plain "java/util/Collections$EmptyList" (some 30) with
  accessFlags := 32
  interfaces := #[31, 2]
  cf := some (fileOf pool32 65 #[.nestHost 8] #[{ accessFlags := 2, nameIndex := 5, descriptorIndex := 6, attributes := #[] }] 32 2 #[67, 69] #[{ accessFlags := 26, nameIndex := 71, descriptorIndex := 72, attributes := #[] }])
  fields := #[{ name := "serialVersionUID", type := .long, accessFlags := 26, slot := 0, constantValue := 0 }]
  methods := #[k32m0]
  instanceTypes := #[.int]
  staticTypes := #[.long]
  resolved := Array.replicate 150 none
  statics := none }

def pool33 : Array CpInfo := pool [(2, .class_ 4), (1, u "java/lang/StackTraceElement"), (0, u "<init>"), (2, .class_ 10), (1, u "java/lang/Object"), (0, u "()V"), (2, u "format"), (0, u "B"), (2, u "classLoaderName"), (0, u "Ljava/lang/String;"), (2, u "moduleName"), (2, u "moduleVersion"), (12, u "declaringClass"), (4, u "methodName"), (2, u "fileName"), (2, u "lineNumber"), (0, u "I"), (65, u "declaringClassObject"), (0, u "Ljava/lang/Class;"), (33, .class_ 153), (1, u "java/lang/StackTraceElement$HashedModules"), (17, .class_ 172), (0, u "java/io/Serializable"), (0, u "NATIVE_METHOD"), (1, u "UNKNOWN_SOURCE"), (2, u "BUILTIN_CLASS_LOADER"), (1, u "JDK_NON_UPGRADEABLE_MODULE"), (1, u "serialVersionUID"), (0, u "J")] 51

def k33m0 : Method := { name := "<init>", desc := "()V", sig := { parameters := [], returnType := none }, accessFlags := 2, code := none }
/-- java/lang/StackTraceElement -/
def k33 : Class := { plain "java/lang/StackTraceElement" (some 0) with
  accessFlags := 49
  interfaces := #[2]
  cf := some (fileOf pool33 2 #[.nestMembers #[151]] #[{ accessFlags := 2, nameIndex := 5, descriptorIndex := 11, attributes := #[] }] 49 8 #[171] #[{ accessFlags := 26, nameIndex := 173, descriptorIndex := 19, attributes := #[] }, { accessFlags := 26, nameIndex := 175, descriptorIndex := 19, attributes := #[] }, { accessFlags := 130, nameIndex := 116, descriptorIndex := 117, attributes := #[] }, { accessFlags := 2, nameIndex := 18, descriptorIndex := 19, attributes := #[] }, { accessFlags := 2, nameIndex := 22, descriptorIndex := 19, attributes := #[] }, { accessFlags := 2, nameIndex := 25, descriptorIndex := 19, attributes := #[] }, { accessFlags := 2, nameIndex := 38, descriptorIndex := 19, attributes := #[] }, { accessFlags := 2, nameIndex := 43, descriptorIndex := 19, attributes := #[] }, { accessFlags := 2, nameIndex := 46, descriptorIndex := 19, attributes := #[] }, { accessFlags := 2, nameIndex := 49, descriptorIndex := 50, attributes := #[] }, { accessFlags := 2, nameIndex := 14, descriptorIndex := 15, attributes := #[] }, { accessFlags := 26, nameIndex := 178, descriptorIndex := 15, attributes := #[] }, { accessFlags := 26, nameIndex := 180, descriptorIndex := 15, attributes := #[] }, { accessFlags := 26, nameIndex := 182, descriptorIndex := 183, attributes := #[] }])
  fields := #[{ name := "NATIVE_METHOD", type := (.object "java/lang/String"), accessFlags := 26, slot := 0, constantValue := 0 }, { name := "UNKNOWN_SOURCE", type := (.object "java/lang/String"), accessFlags := 26, slot := 1, constantValue := 0 }, { name := "declaringClassObject", type := (.object "java/lang/Class"), accessFlags := 130, slot := 0, constantValue := 0 }, { name := "classLoaderName", type := (.object "java/lang/String"), accessFlags := 2, slot := 1, constantValue := 0 }, { name := "moduleName", type := (.object "java/lang/String"), accessFlags := 2, slot := 2, constantValue := 0 }, { name := "moduleVersion", type := (.object "java/lang/String"), accessFlags := 2, slot := 3, constantValue := 0 }, { name := "declaringClass", type := (.object "java/lang/String"), accessFlags := 2, slot := 4, constantValue := 0 }, { name := "methodName", type := (.object "java/lang/String"), accessFlags := 2, slot := 5, constantValue := 0 }, { name := "fileName", type := (.object "java/lang/String"), accessFlags := 2, slot := 6, constantValue := 0 }, { name := "lineNumber", type := .int, accessFlags := 2, slot := 7, constantValue := 0 }, { name := "format", type := .byte, accessFlags := 2, slot := 8, constantValue := 0 }, { name := "BUILTIN_CLASS_LOADER", type := .byte, accessFlags := 26, slot := 2, constantValue := 0 }, { name := "JDK_NON_UPGRADEABLE_MODULE", type := .byte, accessFlags := 26, slot := 3, constantValue := 0 }, { name := "serialVersionUID", type := .long, accessFlags := 26, slot := 4, constantValue := 0 }]
  methods := #[k33m0]
  instanceTypes := #[(.object "java/lang/Class"), (.object "java/lang/String"), (.object "java/lang/String"), (.object "java/lang/String"), (.object "java/lang/String"), (.object "java/lang/String"), (.object "java/lang/String"), .int, .byte]
  staticTypes := #[(.object "java/lang/String"), (.object "java/lang/String"), .byte, .byte, .long]
  resolved := Array.replicate 235 none
  statics := none }

def pool34 : Array CpInfo := pool [(1, u "java/lang/Cloneable"), (0, .class_ 1), (0, u "java/lang/Object"), (0, .class_ 3)] 3

/-- java/lang/Cloneable -/
def k34 : Class := { plain "java/lang/Cloneable" (some 0) with
  accessFlags := 1537
  interfaces := #[]
  cf := some (fileOf pool34 2 #[] #[] 1537 4 #[] #[])
  fields := #[]
  methods := #[]
  instanceTypes := #[]
  staticTypes := #[]
  resolved := Array.replicate 8 none
  statics := none }

/-- the primitive byte -/
def k35 : Class := { plain "byte" none with kind := .primitive 'B', accessFlags := 0x411 }
/-- [B -/
def k36 : Class := { plain "[B" (some 0) with kind := .array 35 .byte, interfaces := #[34, 2], accessFlags := 1041 }

/-- the primitive char -/
def k37 : Class := { plain "char" none with kind := .primitive 'C', accessFlags := 0x411 }
/-- [C -/
def k38 : Class := { plain "[C" (some 0) with kind := .array 37 .char, interfaces := #[34, 2], accessFlags := 1041 }

/-- the primitive int -/
def k39 : Class := { plain "int" none with kind := .primitive 'I', accessFlags := 0x411 }
/-- [I -/
def k40 : Class := { plain "[I" (some 0) with kind := .array 39 .int, interfaces := #[34, 2], accessFlags := 1041 }

/-- [Ljava/lang/Object; -/
def k41 : Class := { plain "[Ljava/lang/Object;" (some 0) with kind := .array 0 (.object "java/lang/Object"), interfaces := #[34, 2], accessFlags := 1041 }

/-- [Ljava/lang/StackTraceElement; -/
def k42 : Class := { plain "[Ljava/lang/StackTraceElement;" (some 0) with kind := .array 33 (.object "java/lang/StackTraceElement"), interfaces := #[34, 2], accessFlags := 1041 }

/-- [Ljava/lang/Throwable; -/
def k43 : Class := { plain "[Ljava/lang/Throwable;" (some 0) with kind := .array 10 (.object "java/lang/Throwable"), interfaces := #[34, 2], accessFlags := 1041 }

def heap : Heap := #[{ cls := 7, slots := #[.long 0, .int 1, .null, .int 0, .null, .int 0, .int 0], vm := .statics 7 },
  { cls := 10, slots := #[.long 0, .ref 4, .ref 5, .null, .null, .null, .null, .ref 6, .int 1], vm := .statics 10 },
  { cls := 21, slots := #[.null, .null, .null], vm := .statics 21 },
  { cls := 24, slots := #[.int 0, .int 0, .int 0, .int 0, .int 0, .int 0, .int 0, .int 0, .null, .null, .ref 5, .null], vm := .statics 24 },
  { cls := 42, slots := #[], vm := .none },
  { cls := 32, slots := #[.int 0], vm := .none },
  { cls := 43, slots := #[], vm := .none }]
def classes : Array Class := #[k0, k1, k2, k3, k4, k5, k6, k7, k8, k9, k10, k11, k12, k13, k14, k15, k16, k17, k18, k19, k20, k21, k22, k23, k24, k25, k26, k27, k28, k29, k30, k31, k32, k33, k34, k35, k36, k37, k38, k39, k40, k41, k42, k43]
def interned : List (Array UInt16 × Addr) := []
def slotsUsed : Nat := 32
def theMethod : MethodId := ⟨1, 1⟩
def args0 : Array Value := #[.int 5, .int 9]
def aboutOver (below : List Frame) : State where
  vm := { classes := classes, interned := interned.toArray }
  heap := heap
  slotsUsed := slotsUsed
  threads := #[{ frames := .invoking theMethod args0 :: below }]
def below0 : List Frame := [.native { method := ⟨0, 0⟩, args := #[] }]
def about1 : State := aboutOver below0
def p0 : Program := .bare "" "" ""
def e0 : Env := launch0.env 0 0 0
theorem w_frames : about1.frames = Frame.invoking theMethod args0 :: below0 := rfl
set_option maxRecDepth 65536 in
theorem w_args : argsFit about1.vm theMethod args0 = true := by decide +kernel
set_option maxRecDepth 65536 in
theorem w_heap : heapFits about1 = true := by decide +kernel
set_option maxRecDepth 65536 in
theorem w_runnable : about1.curStatus? = some .runnable := by decide +kernel
set_option maxRecDepth 65536 in
theorem w_alone : about1.alone = true := by decide +kernel
set_option maxRecDepth 65536 in
theorem w_named : about1.methodNamed? x = some theMethod := by decide +kernel
set_option maxRecDepth 65536 in
theorem w_hears : about1.hears theMethod below0 = true := by decide +kernel
set_option maxRecDepth 65536 in
theorem w_ripe : about1.ripe theMethod args0 below0 = true := by decide +kernel
theorem w_running : about1.status = .running := rfl
set_option maxRecDepth 65536 in
theorem w_room : about1.hasRoom e0.platform room_1 = true :=
  launch0.hasRoom_least _ room_1 (by decide +kernel) (by decide +kernel) (by decide +kernel) (by decide +kernel) (by decide +kernel) (by decide +kernel)
theorem allAtoms_all (ts : List Jvm.Cond) (a : Array Jvm.Value) (st : Jvm.State) : (allAtoms ts).before a st = ts.all (fun c => c.before a st) := by
  induction ts with
  | nil => rfl
  | cons c t ih =>
    show (Jvm.Cond.and c (allAtoms t)).before a st = _
    rw [Jvm.Cond.before_and, ih, List.all_cons]
def words1 : List Jvm.Cond := Jvm.Cond.code x code maxLocals ret :: tables_1
/-- a 'code' word, met by the world's own term for the bytes: nothing is compared byte by byte -/
theorem code_word {y : MethodName} {bytes : ByteArray} {mx : Nat} {rt : Option FieldType} {a : Array Value} {s : State} {m : MethodId} {meth : Method} {c : Code} (h1 : s.methodNamed? y = some m) (h2 : s.vm.method? m = some meth) (h3 : meth.code = some c) (h4 : c.code = bytes)
    (h5 : (c.maxLocals == mx && c.exceptionTable.isEmpty && decide (c.maxStack ≤ mostOperands) && decide (meth.sig.returnType = rt) && !meth.locks && decide (parseMethodDescriptor y.desc = some meth.sig)) = true) : (Jvm.Cond.code y bytes mx rt).before a s = true := by
  simp only [Bool.and_eq_true, beq_iff_eq, Bool.not_eq_true', decide_eq_true_eq] at h5
  obtain ⟨⟨⟨⟨⟨g1, g2⟩, g3⟩, g4⟩, g5⟩, g6⟩ := h5
  simp [Cond.before, Cond.holds, Cond.value, h1, h2, h3, h4, g1, g2, g3, g4, g5, g6]
def isCode : Jvm.Cond → Bool
  | .code _ _ _ _ => true
  | _ => false
theorem all_split {L : List Jvm.Cond} {P : Jvm.Cond → Bool} (h1 : L.all (fun c => isCode c || P c) = true) (h2 : ∀ c ∈ L.filter isCode, P c = true) : L.all P = true := by
  refine List.all_eq_true.mpr fun c hc => ?_
  have h := List.all_eq_true.mp h1 c hc
  rcases Bool.eq_false_or_eq_true (isCode c) with hi | hi
  · exact h2 c (List.mem_filter.mpr ⟨hc, hi⟩)
  · simpa [hi] using h
set_option maxRecDepth 65536 in
theorem w_c0 : (Jvm.Cond.code x code maxLocals ret).before args0 about1 = true := code_word (m := ⟨1, 1⟩) (meth := k1m1) (c := k1c1) (by decide +kernel) rfl rfl rfl (by decide +kernel)
set_option maxRecDepth 65536 in
theorem w_c1 : (Jvm.Cond.code ({ cls := "kakehashi/cli/OptionMissingPinLaw", name := "make", desc := "(I)Ljava/lang/String;" } : Jvm.MethodName) method_5_code (5 : Nat) (Option.some (Jvm.ClassFile.FieldType.object "java/lang/String"))).before args0 about1 = true := code_word (m := ⟨1, 4⟩) (meth := k1m4) (c := k1c4) (by decide +kernel) rfl rfl rfl (by decide +kernel)
set_option maxRecDepth 65536 in
theorem w_c2 : (Jvm.Cond.code ({ cls := "java/lang/String", name := "<init>", desc := "([C)V" } : Jvm.MethodName) jdk_42_method_3_code (2 : Nat) (Option.none : Option Jvm.ClassFile.FieldType)).before args0 about1 = true := code_word (m := ⟨7, 1⟩) (meth := k7m1) (c := k7c1) (by decide +kernel) rfl rfl rfl (by decide +kernel)
set_option maxRecDepth 65536 in
theorem w_c3 : (Jvm.Cond.code ({ cls := "java/lang/String", name := "<init>", desc := "([CIILjava/lang/Void;)V" } : Jvm.MethodName) jdk_42_method_149_code (6 : Nat) (Option.none : Option Jvm.ClassFile.FieldType)).before args0 about1 = true := code_word (m := ⟨7, 6⟩) (meth := k7m6) (c := k7c6) (by decide +kernel) rfl rfl rfl (by decide +kernel)
set_option maxRecDepth 65536 in
theorem w_c4 : (Jvm.Cond.code ({ cls := "java/lang/Object", name := "<init>", desc := "()V" } : Jvm.MethodName) object_method_1_code (1 : Nat) (Option.none : Option Jvm.ClassFile.FieldType)).before args0 about1 = true := code_word (m := ⟨0, 0⟩) (meth := k0m0) (c := k0c0) (by decide +kernel) rfl rfl rfl (by decide +kernel)
set_option maxRecDepth 65536 in
theorem w_c5 : (Jvm.Cond.code ({ cls := "kakehashi/cli/Arguments$Option", name := "<init>", desc := "(Ljava/lang/String;Ljava/lang/String;)V" } : Jvm.MethodName) prog_5_method_1_code (3 : Nat) (Option.none : Option Jvm.ClassFile.FieldType)).before args0 about1 = true := code_word (m := ⟨9, 0⟩) (meth := k9m0) (c := k9c0) (by decide +kernel) rfl rfl rfl (by decide +kernel)
set_option maxRecDepth 65536 in
theorem w_c6 : (Jvm.Cond.code ({ cls := "java/lang/Record", name := "<init>", desc := "()V" } : Jvm.MethodName) jdk_30_method_1_code (1 : Nat) (Option.none : Option Jvm.ClassFile.FieldType)).before args0 about1 = true := code_word (m := ⟨8, 0⟩) (meth := k8m0) (c := k8c0) (by decide +kernel) rfl rfl rfl (by decide +kernel)
set_option maxRecDepth 65536 in
theorem w_c7 : (Jvm.Cond.code ({ cls := "kakehashi/cli/Arguments$Option", name := "missing", desc := "()Lkakehashi/cli/UsageException;" } : Jvm.MethodName) prog_5_method_2_code (1 : Nat) (Option.some (Jvm.ClassFile.FieldType.object "kakehashi/cli/UsageException"))).before args0 about1 = true := code_word (m := ⟨9, 1⟩) (meth := k9m1) (c := k9c1) (by decide +kernel) rfl rfl rfl (by decide +kernel)
set_option maxRecDepth 65536 in
theorem w_c8 : (Jvm.Cond.code ({ cls := "java/lang/StringBuilder", name := "<init>", desc := "()V" } : Jvm.MethodName) jdk_67_method_1_code (1 : Nat) (Option.none : Option Jvm.ClassFile.FieldType)).before args0 about1 = true := code_word (m := ⟨16, 0⟩) (meth := k16m0) (c := k16c0) (by decide +kernel) rfl rfl rfl (by decide +kernel)
set_option maxRecDepth 65536 in
theorem w_c9 : (Jvm.Cond.code ({ cls := "java/lang/AbstractStringBuilder", name := "<init>", desc := "(I)V" } : Jvm.MethodName) jdk_68_method_2_code (2 : Nat) (Option.none : Option Jvm.ClassFile.FieldType)).before args0 about1 = true := code_word (m := ⟨15, 1⟩) (meth := k15m1) (c := k15c1) (by decide +kernel) rfl rfl rfl (by decide +kernel)
set_option maxRecDepth 65536 in
theorem w_c10 : (Jvm.Cond.code ({ cls := "java/lang/StringBuilder", name := "append", desc := "(Ljava/lang/String;)Ljava/lang/StringBuilder;" } : Jvm.MethodName) jdk_67_method_7_code (2 : Nat) (Option.some (Jvm.ClassFile.FieldType.object "java/lang/StringBuilder"))).before args0 about1 = true := code_word (m := ⟨16, 1⟩) (meth := k16m1) (c := k16c1) (by decide +kernel) rfl rfl rfl (by decide +kernel)
set_option maxRecDepth 65536 in
theorem w_c11 : (Jvm.Cond.code ({ cls := "java/lang/AbstractStringBuilder", name := "append", desc := "(Ljava/lang/String;)Ljava/lang/AbstractStringBuilder;" } : Jvm.MethodName) jdk_68_method_22_code (3 : Nat) (Option.some (Jvm.ClassFile.FieldType.object "java/lang/AbstractStringBuilder"))).before args0 about1 = true := code_word (m := ⟨15, 4⟩) (meth := k15m4) (c := k15c4) (by decide +kernel) rfl rfl rfl (by decide +kernel)
set_option maxRecDepth 65536 in
theorem w_c12 : (Jvm.Cond.code ({ cls := "java/lang/String", name := "length", desc := "()I" } : Jvm.MethodName) jdk_42_method_54_code (1 : Nat) (Option.some Jvm.ClassFile.FieldType.int)).before args0 about1 = true := code_word (m := ⟨7, 3⟩) (meth := k7m3) (c := k7c3) (by decide +kernel) rfl rfl rfl (by decide +kernel)
set_option maxRecDepth 65536 in
theorem w_c13 : (Jvm.Cond.code ({ cls := "java/lang/String", name := "coder", desc := "()B" } : Jvm.MethodName) jdk_42_method_152_code (1 : Nat) (Option.some Jvm.ClassFile.FieldType.byte)).before args0 about1 = true := code_word (m := ⟨7, 8⟩) (meth := k7m8) (c := k7c8) (by decide +kernel) rfl rfl rfl (by decide +kernel)
set_option maxRecDepth 65536 in
theorem w_c14 : (Jvm.Cond.code ({ cls := "java/lang/AbstractStringBuilder", name := "ensureCapacityInternal", desc := "(I)V" } : Jvm.MethodName) jdk_68_method_9_code (3 : Nat) (Option.none : Option Jvm.ClassFile.FieldType)).before args0 about1 = true := code_word (m := ⟨15, 3⟩) (meth := k15m3) (c := k15c3) (by decide +kernel) rfl rfl rfl (by decide +kernel)
set_option maxRecDepth 65536 in
theorem w_c15 : (Jvm.Cond.code ({ cls := "java/lang/AbstractStringBuilder", name := "putStringAt", desc := "(ILjava/lang/String;)V" } : Jvm.MethodName) jdk_68_method_73_code (3 : Nat) (Option.none : Option Jvm.ClassFile.FieldType)).before args0 about1 = true := code_word (m := ⟨15, 8⟩) (meth := k15m8) (c := k15c8) (by decide +kernel) rfl rfl rfl (by decide +kernel)
set_option maxRecDepth 65536 in
theorem w_c16 : (Jvm.Cond.code ({ cls := "java/lang/AbstractStringBuilder", name := "inflateIfNeededFor", desc := "(Ljava/lang/String;)V" } : Jvm.MethodName) jdk_68_method_71_code (2 : Nat) (Option.none : Option Jvm.ClassFile.FieldType)).before args0 about1 = true := code_word (m := ⟨15, 7⟩) (meth := k15m7) (c := k15c7) (by decide +kernel) rfl rfl rfl (by decide +kernel)
set_option maxRecDepth 65536 in
theorem w_c17 : (Jvm.Cond.code ({ cls := "java/lang/String", name := "getBytes", desc := "([BIB)V" } : Jvm.MethodName) jdk_42_method_147_code (4 : Nat) (Option.none : Option Jvm.ClassFile.FieldType)).before args0 about1 = true := code_word (m := ⟨7, 5⟩) (meth := k7m5) (c := k7c5) (by decide +kernel) rfl rfl rfl (by decide +kernel)
set_option maxRecDepth 65536 in
theorem w_c18 : (Jvm.Cond.code ({ cls := "java/lang/StringBuilder", name := "toString", desc := "()Ljava/lang/String;" } : Jvm.MethodName) jdk_67_method_42_code (1 : Nat) (Option.some (Jvm.ClassFile.FieldType.object "java/lang/String"))).before args0 about1 = true := code_word (m := ⟨16, 2⟩) (meth := k16m2) (c := k16c2) (by decide +kernel) rfl rfl rfl (by decide +kernel)
set_option maxRecDepth 65536 in
theorem w_c19 : (Jvm.Cond.code ({ cls := "java/lang/String", name := "<init>", desc := "(Ljava/lang/StringBuilder;)V" } : Jvm.MethodName) jdk_42_method_53_code (2 : Nat) (Option.none : Option Jvm.ClassFile.FieldType)).before args0 about1 = true := code_word (m := ⟨7, 2⟩) (meth := k7m2) (c := k7c2) (by decide +kernel) rfl rfl rfl (by decide +kernel)
set_option maxRecDepth 65536 in
theorem w_c20 : (Jvm.Cond.code ({ cls := "java/lang/String", name := "<init>", desc := "(Ljava/lang/AbstractStringBuilder;Ljava/lang/Void;)V" } : Jvm.MethodName) jdk_42_method_150_code (5 : Nat) (Option.none : Option Jvm.ClassFile.FieldType)).before args0 about1 = true := code_word (m := ⟨7, 7⟩) (meth := k7m7) (c := k7c7) (by decide +kernel) rfl rfl rfl (by decide +kernel)
set_option maxRecDepth 65536 in
theorem w_c21 : (Jvm.Cond.code ({ cls := "java/lang/AbstractStringBuilder", name := "getValue", desc := "()[B" } : Jvm.MethodName) jdk_68_method_64_code (1 : Nat) (Option.some (Jvm.ClassFile.FieldType.array Jvm.ClassFile.FieldType.byte))).before args0 about1 = true := code_word (m := ⟨15, 5⟩) (meth := k15m5) (c := k15c5) (by decide +kernel) rfl rfl rfl (by decide +kernel)
set_option maxRecDepth 65536 in
theorem w_c22 : (Jvm.Cond.code ({ cls := "java/lang/StringBuilder", name := "length", desc := "()I" } : Jvm.MethodName) jdk_67_method_93_code (1 : Nat) (Option.some Jvm.ClassFile.FieldType.int)).before args0 about1 = true := code_word (m := ⟨16, 3⟩) (meth := k16m3) (c := k16c3) (by decide +kernel) rfl rfl rfl (by decide +kernel)
set_option maxRecDepth 65536 in
theorem w_c23 : (Jvm.Cond.code ({ cls := "java/lang/AbstractStringBuilder", name := "length", desc := "()I" } : Jvm.MethodName) jdk_68_method_6_code (1 : Nat) (Option.some Jvm.ClassFile.FieldType.int)).before args0 about1 = true := code_word (m := ⟨15, 2⟩) (meth := k15m2) (c := k15c2) (by decide +kernel) rfl rfl rfl (by decide +kernel)
set_option maxRecDepth 65536 in
theorem w_c24 : (Jvm.Cond.code ({ cls := "java/lang/AbstractStringBuilder", name := "isLatin1", desc := "()Z" } : Jvm.MethodName) jdk_68_method_68_code (1 : Nat) (Option.some Jvm.ClassFile.FieldType.boolean)).before args0 about1 = true := code_word (m := ⟨15, 6⟩) (meth := k15m6) (c := k15c6) (by decide +kernel) rfl rfl rfl (by decide +kernel)
set_option maxRecDepth 65536 in
theorem w_c25 : (Jvm.Cond.code ({ cls := "java/util/Arrays", name := "copyOfRange", desc := "([BII)[B" } : Jvm.MethodName) jdk_65_method_132_code (3 : Nat) (Option.some (Jvm.ClassFile.FieldType.array Jvm.ClassFile.FieldType.byte))).before args0 about1 = true := code_word (m := ⟨18, 2⟩) (meth := k18m2) (c := k18c2) (by decide +kernel) rfl rfl rfl (by decide +kernel)
set_option maxRecDepth 65536 in
theorem w_c26 : (Jvm.Cond.code ({ cls := "java/util/Arrays", name := "copyOfRangeByte", desc := "([BII)[B" } : Jvm.MethodName) jdk_65_method_133_code (5 : Nat) (Option.some (Jvm.ClassFile.FieldType.array Jvm.ClassFile.FieldType.byte))).before args0 about1 = true := code_word (m := ⟨18, 3⟩) (meth := k18m3) (c := k18c3) (by decide +kernel) rfl rfl rfl (by decide +kernel)
set_option maxRecDepth 65536 in
theorem w_c27 : (Jvm.Cond.code ({ cls := "java/util/Arrays", name := "checkLength", desc := "(II)V" } : Jvm.MethodName) jdk_65_method_131_code (2 : Nat) (Option.none : Option Jvm.ClassFile.FieldType)).before args0 about1 = true := code_word (m := ⟨18, 1⟩) (meth := k18m1) (c := k18c1) (by decide +kernel) rfl rfl rfl (by decide +kernel)
set_option maxRecDepth 65536 in
theorem w_c28 : (Jvm.Cond.code ({ cls := "java/lang/Math", name := "min", desc := "(II)I" } : Jvm.MethodName) jdk_29_method_69_code (2 : Nat) (Option.some Jvm.ClassFile.FieldType.int)).before args0 about1 = true := code_word (m := ⟨19, 1⟩) (meth := k19m1) (c := k19c1) (by decide +kernel) rfl rfl rfl (by decide +kernel)
set_option maxRecDepth 65536 in
theorem w_c29 : (Jvm.Cond.code ({ cls := "kakehashi/cli/UsageException", name := "<init>", desc := "(Ljava/lang/String;)V" } : Jvm.MethodName) prog_25_method_1_code (2 : Nat) (Option.none : Option Jvm.ClassFile.FieldType)).before args0 about1 = true := code_word (m := ⟨13, 0⟩) (meth := k13m0) (c := k13c0) (by decide +kernel) rfl rfl rfl (by decide +kernel)
set_option maxRecDepth 65536 in
theorem w_c30 : (Jvm.Cond.code ({ cls := "kakehashi/cli/CommandException", name := "<init>", desc := "(Ljava/lang/String;Ljava/lang/Throwable;)V" } : Jvm.MethodName) prog_8_method_1_code (3 : Nat) (Option.none : Option Jvm.ClassFile.FieldType)).before args0 about1 = true := code_word (m := ⟨12, 0⟩) (meth := k12m0) (c := k12c0) (by decide +kernel) rfl rfl rfl (by decide +kernel)
set_option maxRecDepth 65536 in
theorem w_c31 : (Jvm.Cond.code ({ cls := "java/lang/Exception", name := "<init>", desc := "(Ljava/lang/String;Ljava/lang/Throwable;)V" } : Jvm.MethodName) jdk_59_method_3_code (3 : Nat) (Option.none : Option Jvm.ClassFile.FieldType)).before args0 about1 = true := code_word (m := ⟨11, 1⟩) (meth := k11m1) (c := k11c1) (by decide +kernel) rfl rfl rfl (by decide +kernel)
set_option maxRecDepth 65536 in
theorem w_c32 : (Jvm.Cond.code ({ cls := "java/lang/Throwable", name := "<init>", desc := "(Ljava/lang/String;Ljava/lang/Throwable;)V" } : Jvm.MethodName) jdk_78_method_3_code (3 : Nat) (Option.none : Option Jvm.ClassFile.FieldType)).before args0 about1 = true := code_word (m := ⟨10, 1⟩) (meth := k10m1) (c := k10c1) (by decide +kernel) rfl rfl rfl (by decide +kernel)
set_option maxRecDepth 65536 in
theorem w_c33 : (Jvm.Cond.code ({ cls := "java/lang/Throwable", name := "<init>", desc := "()V" } : Jvm.MethodName) jdk_78_method_1_code (1 : Nat) (Option.none : Option Jvm.ClassFile.FieldType)).before args0 about1 = true := code_word (m := ⟨10, 0⟩) (meth := k10m0) (c := k10c0) (by decide +kernel) rfl rfl rfl (by decide +kernel)
set_option maxRecDepth 65536 in
theorem w_c34 : (Jvm.Cond.code ({ cls := "java/lang/Throwable", name := "getMessage", desc := "()Ljava/lang/String;" } : Jvm.MethodName) jdk_78_method_6_code (1 : Nat) (Option.some (Jvm.ClassFile.FieldType.object "java/lang/String"))).before args0 about1 = true := code_word (m := ⟨10, 2⟩) (meth := k10m2) (c := k10c2) (by decide +kernel) rfl rfl rfl (by decide +kernel)
set_option maxRecDepth 65536 in
theorem w_c35 : (Jvm.Cond.code ({ cls := "kakehashi/cli/OptionMissingPinLaw", name := "ok", desc := "(Ljava/lang/String;Ljava/lang/String;Ljava/lang/String;I)Z" } : Jvm.MethodName) method_3_code (6 : Nat) (Option.some Jvm.ClassFile.FieldType.boolean)).before args0 about1 = true := code_word (m := ⟨1, 2⟩) (meth := k1m2) (c := k1c2) (by decide +kernel) rfl rfl rfl (by decide +kernel)
set_option maxRecDepth 65536 in
theorem w_c36 : (Jvm.Cond.code ({ cls := "kakehashi/cli/OptionMissingPinLaw", name := "expectedAt", desc := "(Ljava/lang/String;Ljava/lang/String;I)I" } : Jvm.MethodName) method_4_code (6 : Nat) (Option.some Jvm.ClassFile.FieldType.int)).before args0 about1 = true := code_word (m := ⟨1, 3⟩) (meth := k1m3) (c := k1c3) (by decide +kernel) rfl rfl rfl (by decide +kernel)
set_option maxRecDepth 65536 in
theorem w_c37 : (Jvm.Cond.code ({ cls := "java/lang/String", name := "charAt", desc := "(I)C" } : Jvm.MethodName) jdk_42_method_56_code (2 : Nat) (Option.some Jvm.ClassFile.FieldType.char)).before args0 about1 = true := code_word (m := ⟨7, 4⟩) (meth := k7m4) (c := k7c4) (by decide +kernel) rfl rfl rfl (by decide +kernel)
set_option maxRecDepth 65536 in
theorem w_c38 : (Jvm.Cond.code ({ cls := "java/lang/String", name := "isLatin1", desc := "()Z" } : Jvm.MethodName) jdk_42_method_154_code (1 : Nat) (Option.some Jvm.ClassFile.FieldType.boolean)).before args0 about1 = true := code_word (m := ⟨7, 9⟩) (meth := k7m9) (c := k7c9) (by decide +kernel) rfl rfl rfl (by decide +kernel)
set_option maxRecDepth 65536 in
theorem w_c39 : (Jvm.Cond.code ({ cls := "java/lang/StringLatin1", name := "charAt", desc := "([BI)C" } : Jvm.MethodName) jdk_43_method_2_code (2 : Nat) (Option.some Jvm.ClassFile.FieldType.char)).before args0 about1 = true := code_word (m := ⟨20, 1⟩) (meth := k20m1) (c := k20c1) (by decide +kernel) rfl rfl rfl (by decide +kernel)
set_option maxRecDepth 65536 in
theorem w_c40 : (Jvm.Cond.code ({ cls := "java/lang/String", name := "checkIndex", desc := "(II)V" } : Jvm.MethodName) jdk_42_method_155_code (2 : Nat) (Option.none : Option Jvm.ClassFile.FieldType)).before args0 about1 = true := code_word (m := ⟨7, 10⟩) (meth := k7m10) (c := k7c10) (by decide +kernel) rfl rfl rfl (by decide +kernel)
set_option maxRecDepth 65536 in
theorem w_c41 : (Jvm.Cond.code ({ cls := "jdk/internal/util/Preconditions", name := "checkIndex", desc := "(IILjava/util/function/BiFunction;)I" } : Jvm.MethodName) jdk_41_method_11_code (3 : Nat) (Option.some Jvm.ClassFile.FieldType.int)).before args0 about1 = true := code_word (m := ⟨21, 1⟩) (meth := k21m1) (c := k21c1) (by decide +kernel) rfl rfl rfl (by decide +kernel)
set_option maxRecDepth 65536 in
theorem w_c42 : (Jvm.Cond.code ({ cls := "java/lang/StringUTF16", name := "compress", desc := "([CII)[B" } : Jvm.MethodName) jdk_52_method_16_code (6 : Nat) (Option.some (Jvm.ClassFile.FieldType.array Jvm.ClassFile.FieldType.byte))).before args0 about1 = true := code_word (m := ⟨22, 2⟩) (meth := k22m2) (c := k22c2) (by decide +kernel) rfl rfl rfl (by decide +kernel)
set_option maxRecDepth 65536 in
theorem w_c43 : (Jvm.Cond.code ({ cls := "java/lang/StringUTF16", name := "compress", desc := "([CI[BII)I" } : Jvm.MethodName) jdk_52_method_21_code (7 : Nat) (Option.some Jvm.ClassFile.FieldType.int)).before args0 about1 = true := code_word (m := ⟨22, 3⟩) (meth := k22m3) (c := k22c3) (by decide +kernel) rfl rfl rfl (by decide +kernel)
set_option maxRecDepth 65536 in
theorem w_c44 : (Jvm.Cond.code ({ cls := "java/lang/StringUTF16", name := "coderFromArrayLen", desc := "([BI)B" } : Jvm.MethodName) jdk_52_method_15_code (2 : Nat) (Option.some Jvm.ClassFile.FieldType.byte)).before args0 about1 = true := code_word (m := ⟨22, 1⟩) (meth := k22m1) (c := k22c1) (by decide +kernel) rfl rfl rfl (by decide +kernel)
def codes1 : List Jvm.Cond := [Jvm.Cond.code x code maxLocals ret, Jvm.Cond.code ({ cls := "kakehashi/cli/OptionMissingPinLaw", name := "make", desc := "(I)Ljava/lang/String;" } : Jvm.MethodName) method_5_code (5 : Nat) (Option.some (Jvm.ClassFile.FieldType.object "java/lang/String")), Jvm.Cond.code ({ cls := "java/lang/String", name := "<init>", desc := "([C)V" } : Jvm.MethodName) jdk_42_method_3_code (2 : Nat) (Option.none : Option Jvm.ClassFile.FieldType), Jvm.Cond.code ({ cls := "java/lang/String", name := "<init>", desc := "([CIILjava/lang/Void;)V" } : Jvm.MethodName) jdk_42_method_149_code (6 : Nat) (Option.none : Option Jvm.ClassFile.FieldType), Jvm.Cond.code ({ cls := "java/lang/Object", name := "<init>", desc := "()V" } : Jvm.MethodName) object_method_1_code (1 : Nat) (Option.none : Option Jvm.ClassFile.FieldType), Jvm.Cond.code ({ cls := "kakehashi/cli/Arguments$Option", name := "<init>", desc := "(Ljava/lang/String;Ljava/lang/String;)V" } : Jvm.MethodName) prog_5_method_1_code (3 : Nat) (Option.none : Option Jvm.ClassFile.FieldType), Jvm.Cond.code ({ cls := "java/lang/Record", name := "<init>", desc := "()V" } : Jvm.MethodName) jdk_30_method_1_code (1 : Nat) (Option.none : Option Jvm.ClassFile.FieldType), Jvm.Cond.code ({ cls := "kakehashi/cli/Arguments$Option", name := "missing", desc := "()Lkakehashi/cli/UsageException;" } : Jvm.MethodName) prog_5_method_2_code (1 : Nat) (Option.some (Jvm.ClassFile.FieldType.object "kakehashi/cli/UsageException")), Jvm.Cond.code ({ cls := "java/lang/StringBuilder", name := "<init>", desc := "()V" } : Jvm.MethodName) jdk_67_method_1_code (1 : Nat) (Option.none : Option Jvm.ClassFile.FieldType), Jvm.Cond.code ({ cls := "java/lang/AbstractStringBuilder", name := "<init>", desc := "(I)V" } : Jvm.MethodName) jdk_68_method_2_code (2 : Nat) (Option.none : Option Jvm.ClassFile.FieldType), Jvm.Cond.code ({ cls := "java/lang/StringBuilder", name := "append", desc := "(Ljava/lang/String;)Ljava/lang/StringBuilder;" } : Jvm.MethodName) jdk_67_method_7_code (2 : Nat) (Option.some (Jvm.ClassFile.FieldType.object "java/lang/StringBuilder")), Jvm.Cond.code ({ cls := "java/lang/AbstractStringBuilder", name := "append", desc := "(Ljava/lang/String;)Ljava/lang/AbstractStringBuilder;" } : Jvm.MethodName) jdk_68_method_22_code (3 : Nat) (Option.some (Jvm.ClassFile.FieldType.object "java/lang/AbstractStringBuilder")), Jvm.Cond.code ({ cls := "java/lang/String", name := "length", desc := "()I" } : Jvm.MethodName) jdk_42_method_54_code (1 : Nat) (Option.some Jvm.ClassFile.FieldType.int), Jvm.Cond.code ({ cls := "java/lang/String", name := "coder", desc := "()B" } : Jvm.MethodName) jdk_42_method_152_code (1 : Nat) (Option.some Jvm.ClassFile.FieldType.byte), Jvm.Cond.code ({ cls := "java/lang/AbstractStringBuilder", name := "ensureCapacityInternal", desc := "(I)V" } : Jvm.MethodName) jdk_68_method_9_code (3 : Nat) (Option.none : Option Jvm.ClassFile.FieldType), Jvm.Cond.code ({ cls := "java/lang/AbstractStringBuilder", name := "putStringAt", desc := "(ILjava/lang/String;)V" } : Jvm.MethodName) jdk_68_method_73_code (3 : Nat) (Option.none : Option Jvm.ClassFile.FieldType), Jvm.Cond.code ({ cls := "java/lang/AbstractStringBuilder", name := "inflateIfNeededFor", desc := "(Ljava/lang/String;)V" } : Jvm.MethodName) jdk_68_method_71_code (2 : Nat) (Option.none : Option Jvm.ClassFile.FieldType), Jvm.Cond.code ({ cls := "java/lang/String", name := "getBytes", desc := "([BIB)V" } : Jvm.MethodName) jdk_42_method_147_code (4 : Nat) (Option.none : Option Jvm.ClassFile.FieldType), Jvm.Cond.code ({ cls := "java/lang/StringBuilder", name := "toString", desc := "()Ljava/lang/String;" } : Jvm.MethodName) jdk_67_method_42_code (1 : Nat) (Option.some (Jvm.ClassFile.FieldType.object "java/lang/String")), Jvm.Cond.code ({ cls := "java/lang/String", name := "<init>", desc := "(Ljava/lang/StringBuilder;)V" } : Jvm.MethodName) jdk_42_method_53_code (2 : Nat) (Option.none : Option Jvm.ClassFile.FieldType), Jvm.Cond.code ({ cls := "java/lang/String", name := "<init>", desc := "(Ljava/lang/AbstractStringBuilder;Ljava/lang/Void;)V" } : Jvm.MethodName) jdk_42_method_150_code (5 : Nat) (Option.none : Option Jvm.ClassFile.FieldType), Jvm.Cond.code ({ cls := "java/lang/AbstractStringBuilder", name := "getValue", desc := "()[B" } : Jvm.MethodName) jdk_68_method_64_code (1 : Nat) (Option.some (Jvm.ClassFile.FieldType.array Jvm.ClassFile.FieldType.byte)), Jvm.Cond.code ({ cls := "java/lang/StringBuilder", name := "length", desc := "()I" } : Jvm.MethodName) jdk_67_method_93_code (1 : Nat) (Option.some Jvm.ClassFile.FieldType.int), Jvm.Cond.code ({ cls := "java/lang/AbstractStringBuilder", name := "length", desc := "()I" } : Jvm.MethodName) jdk_68_method_6_code (1 : Nat) (Option.some Jvm.ClassFile.FieldType.int), Jvm.Cond.code ({ cls := "java/lang/AbstractStringBuilder", name := "isLatin1", desc := "()Z" } : Jvm.MethodName) jdk_68_method_68_code (1 : Nat) (Option.some Jvm.ClassFile.FieldType.boolean), Jvm.Cond.code ({ cls := "java/util/Arrays", name := "copyOfRange", desc := "([BII)[B" } : Jvm.MethodName) jdk_65_method_132_code (3 : Nat) (Option.some (Jvm.ClassFile.FieldType.array Jvm.ClassFile.FieldType.byte)), Jvm.Cond.code ({ cls := "java/util/Arrays", name := "copyOfRangeByte", desc := "([BII)[B" } : Jvm.MethodName) jdk_65_method_133_code (5 : Nat) (Option.some (Jvm.ClassFile.FieldType.array Jvm.ClassFile.FieldType.byte)), Jvm.Cond.code ({ cls := "java/util/Arrays", name := "checkLength", desc := "(II)V" } : Jvm.MethodName) jdk_65_method_131_code (2 : Nat) (Option.none : Option Jvm.ClassFile.FieldType), Jvm.Cond.code ({ cls := "java/lang/Math", name := "min", desc := "(II)I" } : Jvm.MethodName) jdk_29_method_69_code (2 : Nat) (Option.some Jvm.ClassFile.FieldType.int), Jvm.Cond.code ({ cls := "kakehashi/cli/UsageException", name := "<init>", desc := "(Ljava/lang/String;)V" } : Jvm.MethodName) prog_25_method_1_code (2 : Nat) (Option.none : Option Jvm.ClassFile.FieldType), Jvm.Cond.code ({ cls := "kakehashi/cli/CommandException", name := "<init>", desc := "(Ljava/lang/String;Ljava/lang/Throwable;)V" } : Jvm.MethodName) prog_8_method_1_code (3 : Nat) (Option.none : Option Jvm.ClassFile.FieldType), Jvm.Cond.code ({ cls := "java/lang/Exception", name := "<init>", desc := "(Ljava/lang/String;Ljava/lang/Throwable;)V" } : Jvm.MethodName) jdk_59_method_3_code (3 : Nat) (Option.none : Option Jvm.ClassFile.FieldType), Jvm.Cond.code ({ cls := "java/lang/Throwable", name := "<init>", desc := "(Ljava/lang/String;Ljava/lang/Throwable;)V" } : Jvm.MethodName) jdk_78_method_3_code (3 : Nat) (Option.none : Option Jvm.ClassFile.FieldType), Jvm.Cond.code ({ cls := "java/lang/Throwable", name := "<init>", desc := "()V" } : Jvm.MethodName) jdk_78_method_1_code (1 : Nat) (Option.none : Option Jvm.ClassFile.FieldType), Jvm.Cond.code ({ cls := "java/lang/Throwable", name := "getMessage", desc := "()Ljava/lang/String;" } : Jvm.MethodName) jdk_78_method_6_code (1 : Nat) (Option.some (Jvm.ClassFile.FieldType.object "java/lang/String")), Jvm.Cond.code ({ cls := "kakehashi/cli/OptionMissingPinLaw", name := "ok", desc := "(Ljava/lang/String;Ljava/lang/String;Ljava/lang/String;I)Z" } : Jvm.MethodName) method_3_code (6 : Nat) (Option.some Jvm.ClassFile.FieldType.boolean), Jvm.Cond.code ({ cls := "kakehashi/cli/OptionMissingPinLaw", name := "expectedAt", desc := "(Ljava/lang/String;Ljava/lang/String;I)I" } : Jvm.MethodName) method_4_code (6 : Nat) (Option.some Jvm.ClassFile.FieldType.int), Jvm.Cond.code ({ cls := "java/lang/String", name := "charAt", desc := "(I)C" } : Jvm.MethodName) jdk_42_method_56_code (2 : Nat) (Option.some Jvm.ClassFile.FieldType.char), Jvm.Cond.code ({ cls := "java/lang/String", name := "isLatin1", desc := "()Z" } : Jvm.MethodName) jdk_42_method_154_code (1 : Nat) (Option.some Jvm.ClassFile.FieldType.boolean), Jvm.Cond.code ({ cls := "java/lang/StringLatin1", name := "charAt", desc := "([BI)C" } : Jvm.MethodName) jdk_43_method_2_code (2 : Nat) (Option.some Jvm.ClassFile.FieldType.char), Jvm.Cond.code ({ cls := "java/lang/String", name := "checkIndex", desc := "(II)V" } : Jvm.MethodName) jdk_42_method_155_code (2 : Nat) (Option.none : Option Jvm.ClassFile.FieldType), Jvm.Cond.code ({ cls := "jdk/internal/util/Preconditions", name := "checkIndex", desc := "(IILjava/util/function/BiFunction;)I" } : Jvm.MethodName) jdk_41_method_11_code (3 : Nat) (Option.some Jvm.ClassFile.FieldType.int), Jvm.Cond.code ({ cls := "java/lang/StringUTF16", name := "compress", desc := "([CII)[B" } : Jvm.MethodName) jdk_52_method_16_code (6 : Nat) (Option.some (Jvm.ClassFile.FieldType.array Jvm.ClassFile.FieldType.byte)), Jvm.Cond.code ({ cls := "java/lang/StringUTF16", name := "compress", desc := "([CI[BII)I" } : Jvm.MethodName) jdk_52_method_21_code (7 : Nat) (Option.some Jvm.ClassFile.FieldType.int), Jvm.Cond.code ({ cls := "java/lang/StringUTF16", name := "coderFromArrayLen", desc := "([BI)B" } : Jvm.MethodName) jdk_52_method_15_code (2 : Nat) (Option.some Jvm.ClassFile.FieldType.byte)]
set_option maxRecDepth 65536 in
theorem codes_eq : words1.filter isCode = codes1 := rfl
theorem w_codes : ∀ c ∈ words1.filter isCode, c.before args0 about1 = true := by
  rw [codes_eq]
  intro c hc
  simp only [codes1, List.mem_cons, List.not_mem_nil, or_false] at hc
  rcases hc with rfl | rfl | rfl | rfl | rfl | rfl | rfl | rfl | rfl | rfl | rfl | rfl | rfl | rfl | rfl | rfl | rfl | rfl | rfl | rfl | rfl | rfl | rfl | rfl | rfl | rfl | rfl | rfl | rfl | rfl | rfl | rfl | rfl | rfl | rfl | rfl | rfl | rfl | rfl | rfl | rfl | rfl | rfl | rfl | rfl
  · exact w_c0
  · exact w_c1
  · exact w_c2
  · exact w_c3
  · exact w_c4
  · exact w_c5
  · exact w_c6
  · exact w_c7
  · exact w_c8
  · exact w_c9
  · exact w_c10
  · exact w_c11
  · exact w_c12
  · exact w_c13
  · exact w_c14
  · exact w_c15
  · exact w_c16
  · exact w_c17
  · exact w_c18
  · exact w_c19
  · exact w_c20
  · exact w_c21
  · exact w_c22
  · exact w_c23
  · exact w_c24
  · exact w_c25
  · exact w_c26
  · exact w_c27
  · exact w_c28
  · exact w_c29
  · exact w_c30
  · exact w_c31
  · exact w_c32
  · exact w_c33
  · exact w_c34
  · exact w_c35
  · exact w_c36
  · exact w_c37
  · exact w_c38
  · exact w_c39
  · exact w_c40
  · exact w_c41
  · exact w_c42
  · exact w_c43
  · exact w_c44
set_option maxRecDepth 65536 in
theorem w_t1 : (words1.take 24).all (fun c => isCode c || c.before args0 about1) = true := by decide +kernel
set_option maxRecDepth 65536 in
theorem w_t2 : ((words1.drop 24).take 24).all (fun c => isCode c || c.before args0 about1) = true := by decide +kernel
set_option maxRecDepth 65536 in
theorem w_t3 : (((words1.drop 24).drop 24).take 24).all (fun c => isCode c || c.before args0 about1) = true := by decide +kernel
set_option maxRecDepth 65536 in
theorem w_t4 : ((((words1.drop 24).drop 24).drop 24).take 24).all (fun c => isCode c || c.before args0 about1) = true := by decide +kernel
set_option maxRecDepth 65536 in
theorem w_t5 : (((((words1.drop 24).drop 24).drop 24).drop 24).take 24).all (fun c => isCode c || c.before args0 about1) = true := by decide +kernel
set_option maxRecDepth 65536 in
theorem w_t6 : ((((((words1.drop 24).drop 24).drop 24).drop 24).drop 24).take 24).all (fun c => isCode c || c.before args0 about1) = true := by decide +kernel
set_option maxRecDepth 65536 in
theorem w_t7 : (((((((words1.drop 24).drop 24).drop 24).drop 24).drop 24).drop 24).take 24).all (fun c => isCode c || c.before args0 about1) = true := by decide +kernel
set_option maxRecDepth 65536 in
theorem w_t8 : ((((((((words1.drop 24).drop 24).drop 24).drop 24).drop 24).drop 24).drop 24).take 24).all (fun c => isCode c || c.before args0 about1) = true := by decide +kernel
set_option maxRecDepth 65536 in
theorem w_t9 : (((((((((words1.drop 24).drop 24).drop 24).drop 24).drop 24).drop 24).drop 24).drop 24).take 24).all (fun c => isCode c || c.before args0 about1) = true := by decide +kernel
set_option maxRecDepth 65536 in
theorem w_t10 : ((((((((((words1.drop 24).drop 24).drop 24).drop 24).drop 24).drop 24).drop 24).drop 24).drop 24).take 24).all (fun c => isCode c || c.before args0 about1) = true := by decide +kernel
set_option maxRecDepth 65536 in
theorem w_t11 : (((((((((((words1.drop 24).drop 24).drop 24).drop 24).drop 24).drop 24).drop 24).drop 24).drop 24).drop 24).take 24).all (fun c => isCode c || c.before args0 about1) = true := by decide +kernel
set_option maxRecDepth 65536 in
theorem w_t12 : (((((((((((words1.drop 24).drop 24).drop 24).drop 24).drop 24).drop 24).drop 24).drop 24).drop 24).drop 24).drop 24).all (fun c => isCode c || c.before args0 about1) = true := by decide +kernel
theorem w_tables : (allAtoms (Jvm.Cond.code x code maxLocals ret :: tables_1)).before args0 about1 = true := by
  rw [allAtoms_all]
  show words1.all (fun c => c.before args0 about1) = true
  refine all_split ?_ w_codes
  rw [← List.take_append_drop 24 words1, List.all_append, w_t1, ← List.take_append_drop 24 (words1.drop 24), List.all_append, w_t2, ← List.take_append_drop 24 ((words1.drop 24).drop 24), List.all_append, w_t3, ← List.take_append_drop 24 (((words1.drop 24).drop 24).drop 24), List.all_append, w_t4, ← List.take_append_drop 24 ((((words1.drop 24).drop 24).drop 24).drop 24), List.all_append, w_t5, ← List.take_append_drop 24 (((((words1.drop 24).drop 24).drop 24).drop 24).drop 24), List.all_append, w_t6, ← List.take_append_drop 24 ((((((words1.drop 24).drop 24).drop 24).drop 24).drop 24).drop 24), List.all_append, w_t7, ← List.take_append_drop 24 (((((((words1.drop 24).drop 24).drop 24).drop 24).drop 24).drop 24).drop 24), List.all_append, w_t8, ← List.take_append_drop 24 ((((((((words1.drop 24).drop 24).drop 24).drop 24).drop 24).drop 24).drop 24).drop 24), List.all_append, w_t9, ← List.take_append_drop 24 (((((((((words1.drop 24).drop 24).drop 24).drop 24).drop 24).drop 24).drop 24).drop 24).drop 24), List.all_append, w_t10, ← List.take_append_drop 24 ((((((((((words1.drop 24).drop 24).drop 24).drop 24).drop 24).drop 24).drop 24).drop 24).drop 24).drop 24), List.all_append, w_t11, w_t12]
  rfl
set_option maxRecDepth 65536 in
theorem w_rest : rest_1_c.before args0 about1 = true := by decide +kernel
set_option maxRecDepth 65536 in
theorem w_case : (Jvm.Cond.and given_1 narrow_1).before args0 about1 = true := by decide +kernel
set_option maxRecDepth 65536 in
theorem w_consts : constsHeld consts_1 about1 := Jvm.Lit.constsHeldB_iff.mp (by decide +kernel)
theorem w_applies : (headSpec (Jvm.Cond.code x code maxLocals ret :: tables_1) room_1).applies x e0.platform about1 = true :=
  (Spec.applies_iff w_frames).mpr ⟨w_running, w_runnable, w_alone, w_named, w_hears, w_ripe, w_room, w_tables⟩
theorem atStart : AtStart classFile x code maxLocals ret World_1 tables_1 room_1 Calls_1 rest_1 Pre_1 launch0 p0 e0 about1 theMethod args0 below0 :=
  ⟨lists_1, trivial, launch0.admits_env _ _ _, launch0.least_env, fairChoices_fair.cas, fairChoices_fair.clock, w_frames, w_args, w_heap, w_applies, ⟨(by decide +kernel : framesKnown about1 = true), ⟨(by decide +kernel : tablesKnown about1 = true), ⟨w_consts, trivial⟩⟩⟩, w_rest, w_case⟩
end start1
theorem witness_1 : WitnessClaimed_1 := ⟨start1.p0, start1.e0, start1.about1, start1.theMethod, start1.args0, start1.below0, start1.atStart⟩
end Jvm.Pilot.@@N@@
