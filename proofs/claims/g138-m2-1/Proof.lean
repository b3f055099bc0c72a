import JvmDerived
import JvmDerived.Pilot.@@N@@Statement
import JvmDerived.Pilot.@@N@@Code
set_option linter.unusedVariables false
set_option linter.unusedSimpArgs false
/- laws to paste: Road.backV (cut by pick.py; bodies as the Statement names them) -/
namespace Jvm.Pilot.@@N@@
namespace StrChars
open Jvm Sem ClassFile Op Lib Jvm.Stand Jvm.Free.XT Jvm.Free.ALB Jvm.Free.JM Jvm.Free
open Jvm.Lib.Cold (StaticIs)
/-- a char array whose places are chars -/
def Ch (a : Addr) (A : Cell) (U : State) : Prop := Arr .char a A U ∧ Typed .char A
theorem Ch.mv {a : Addr} {A : Cell} {U U' : State} (h : Ch a A U) (hal : U.vm.Alike U'.vm) (hh : U'.heap = U.heap) : Ch a A U' := ⟨h.1.mv hal hh, h.2⟩
theorem Ch.keep {a : Addr} {A : Cell} {U U' : State} (h : Ch a A U) (hal : U.vm.Alike U'.vm) (hk : U'.heap[a]? = some A) : Ch a A U' := ⟨h.1.keep hal hk, h.2⟩
/-- what place i of a char[]'s cell holds -/
def cv (A : Cell) (i : Nat) : Int32 := match A.slots[i]? with | some (.int x) => x | _ => 0
theorem Ch.get {a : Addr} {A : Cell} {U : State} (h : Ch a A U) {i : Nat} (hi : i < A.slots.size) : A.slots[i]? = some (.int (cv A i)) := by
  have e := Array.getElem?_eq_getElem hi
  have f := h.2 i _ e
  unfold cv; rw [e]
  generalize A.slots[i] = v at f
  cases v <;> simp [fits] at f ⊢
/-- the byte that i2b leaves of a char -/
def lo8 (x : Int32) : Int32 := x.toInt8.toInt32
theorem fits_lo8 (y : Int32) : fits .byte (.int (lo8 y)) = true := by
  have h1 := y.toInt8.le_toInt
  have h2 := y.toInt8.toInt_lt
  simp only [lo8, fits, Bool.and_eq_true, decide_eq_true_eq, Int32.le_iff_toInt_le, Int8.toInt_toInt32, show (-128 : Int32).toInt = -128 from by decide, show (127 : Int32).toInt = 127 from by decide]
  omega
/-- A' is A but that each place j of lo .. hi - 1 holds f j -/
def Laid (A A' : Cell) (lo hi : Nat) (f : Nat → Value) : Prop := A'.cls = A.cls ∧ A'.vm = A.vm ∧ A'.slots.size = A.slots.size ∧ ∀ i, A'.slots[i]? = if lo ≤ i ∧ i < hi then some (f i) else A.slots[i]?
theorem Laid.zero (A : Cell) (lo : Nat) (f : Nat → Value) : Laid A A lo (lo + 0) f := ⟨rfl, rfl, rfl, fun i => by rw [if_neg (by omega)]⟩
theorem Laid.step {A Ak : Cell} {lo k : Nat} {f : Nat → Value} {v : Value} (h : Laid A Ak lo k f) (hlo : lo ≤ k) (hk : k < Ak.slots.size) (hv : v = f k) : Laid A (Ak.setSlot k v) lo (k + 1) f := by
  refine ⟨h.1, h.2.1, by simpa [Cell.setSlot] using h.2.2.1, fun i => ?_⟩
  by_cases e : k = i
  · subst e; rw [Cell.slots_setSlot_self v hk, if_pos (by omega), hv]
  · rw [Cell.slots_setSlot_ne v e, h.2.2.2 i]
    by_cases q : lo ≤ i ∧ i < k
    · rw [if_pos q, if_pos (by omega)]
    · rw [if_neg q, if_neg (by omega)]
def U16 : String := "java/lang/StringUTF16"
namespace Cmp5
def yN : MethodName := ⟨"java/lang/StringUTF16", "compress", "([CI[BII)I"⟩
abbrev yB : ByteArray := jdk_52_method_21_code
theorem d0 : decode yB 0 = .ok (.iconst 0, 1) := by decide +kernel
theorem d1 : decode yB 1 = .ok (.istore 5, 2) := by decide +kernel
theorem d3 : decode yB 3 = .ok (.iload 5, 2) := by decide +kernel
theorem d5 : decode yB 5 = .ok (.iload 4, 2) := by decide +kernel
theorem d7 : decode yB 7 = .ok (.if_icmp (.ge) 37, 3) := by decide +kernel
theorem d10 : decode yB 10 = .ok (.aload_n 0, 1) := by decide +kernel
theorem d11 : decode yB 11 = .ok (.iload_n 1, 1) := by decide +kernel
theorem d12 : decode yB 12 = .ok (.caload, 1) := by decide +kernel
theorem d13 : decode yB 13 = .ok (.istore 6, 2) := by decide +kernel
theorem d15 : decode yB 15 = .ok (.iload 6, 2) := by decide +kernel
theorem d17 : decode yB 17 = .ok (.sipush 255, 3) := by decide +kernel
theorem d20 : decode yB 20 = .ok (.if_icmp (.le) 6, 3) := by decide +kernel
theorem d26 : decode yB 26 = .ok (.aload_n 2, 1) := by decide +kernel
theorem d27 : decode yB 27 = .ok (.iload_n 3, 1) := by decide +kernel
theorem d28 : decode yB 28 = .ok (.iload 6, 2) := by decide +kernel
theorem d30 : decode yB 30 = .ok (.i2b, 1) := by decide +kernel
theorem d31 : decode yB 31 = .ok (.bastore, 1) := by decide +kernel
theorem d32 : decode yB 32 = .ok (.iinc 1 1, 3) := by decide +kernel
theorem d35 : decode yB 35 = .ok (.iinc 3 1, 3) := by decide +kernel
theorem d38 : decode yB 38 = .ok (.iinc 5 1, 3) := by decide +kernel
theorem d41 : decode yB 41 = .ok (.goto (-38), 3) := by decide +kernel
theorem d44 : decode yB 44 = .ok (.iload 4, 2) := by decide +kernel
theorem d46 : decode yB 46 = .ok (.ireturn, 1) := by decide +kernel
def site : List Cond := []
def tab : Cond := tabOf yN yB 7 (some .int) site
def P (b : Addr) (A : Cell) (d : Addr) (B : Cell) (o q len : Nat) (args : Array Value) (s : State) : Prop := args = #[.ref b, .int (Int32.ofNat o), .ref d, .int (Int32.ofNat q), .int (Int32.ofNat len)] ∧ Ch b A s ∧ Arr .byte d B s ∧ b ≠ d ∧ o + len ≤ A.slots.size ∧ q + len ≤ B.slots.size ∧ ∀ i, i < len → ¬ 255 < cv A (o + i)
def E (b : Addr) (A : Cell) (d : Addr) (B : Cell) (o q len : Nat) (r : Option Value) (s u : State) : Prop := r = some (.int (Int32.ofNat len)) ∧ ∃ B', Put d B' s u ∧ Laid B B' q (q + len) (fun j => Value.int (lo8 (cv A (o + (j - q)))))
/-- no char of the range above 255: len; the places written hold each char's low byte -/
theorem law (l : Launch) (b : Addr) (A : Cell) (d : Addr) (B : Cell) (o q len : Nat) : Law l yN 5 5 0 0 yB 7 (some .int) site (P b A d B o q len) (E b A d B o q len) (copyLocs d q len) 0 0 := by
  refine Law.of_walk (plainFor_of_name (by decide +kernel)) (by decide +kernel) (by decide +kernel) (by decide) (fun _ _ h => by rw [h.1]; rfl) (fun _ U U' hal hh h => ⟨h.1, h.2.1.mv hal hh, h.2.2.1.mv hal hh, h.2.2.2⟩) (fun r U U' V V' h1 hal h2 h => ⟨h.1, h.2.elim fun B' q => ⟨B', q.1.mv h1 h2, q.2⟩⟩) ?_
  intro p e s m args below meth c s₁ X0 hexec hbytes hml hret hlk hnm hown hh0 W hP
  obtain ⟨rfl, hA, hB, hne, l1, l2, hp⟩ := hP
  have c1 : Steps p.tables e below (s₁.setTop (entryFrame m #[.ref b, .int (Int32.ofNat o), .ref d, .int (Int32.ofNat q), .int (Int32.ofNat len)] 7)) (s₁.setTop (mkF m 0 #[.val (.ref b), .val (.int (Int32.ofNat o)), .val (.ref d), .val (.int (Int32.ofNat q)), .val (.int (Int32.ofNat len)), .unset, .unset] [])) := entry rfl
  have hA0 := hA.1.mv X0.warmed.alike hh0
  have hB0 := hB.mv X0.warmed.alike hh0
  have a31 := hA.1.2.2.2
  have c2 : Steps p.tables e below (s₁.setTop (entryFrame m #[.ref b, .int (Int32.ofNat o), .ref d, .int (Int32.ofNat q), .int (Int32.ofNat len)] 7)) (s₁.setTop (mkF m 3 #[.val (.ref b), .val (.int (Int32.ofNat o)), .val (.ref d), .val (.int (Int32.ofNat q)), .val (.int (Int32.ofNat len)), .val (.int 0), .unset] [])) := c1.trans (by
    refine iconstV X0.here hexec rfl 0 (hb hbytes d0) (by decide) ?_
    refine XS.istore X0.here hexec rfl (hb hbytes d1) rfl rfl ?_
    exact Steps.refl _)
  have loop : ∀ (r i : Nat), i + r = len → ∀ (z : Slot), (z = .unset ∨ ∃ w, z = .val w ∧ w.category = 1) → ∀ (Tl : State) (Bk : Cell), Stand p l e { frames := 0, locals := 0, cells := 0, slots := 0 } s m #[.ref b, .int (Int32.ofNat o), .ref d, .int (Int32.ofNat q), .int (Int32.ofNat len)] below meth c Tl ([] ++ copyLocs d q i) 0 0 → Put d Bk s₁ Tl → Laid B Bk q (q + i) (fun j => Value.int (lo8 (cv A (o + (j - q))))) →
      Steps p.tables e below (s₁.setTop (entryFrame m #[.ref b, .int (Int32.ofNat o), .ref d, .int (Int32.ofNat q), .int (Int32.ofNat len)] 7)) (Tl.setTop (mkF m 3 #[.val (.ref b), .val (.int (Int32.ofNat (o + i))), .val (.ref d), .val (.int (Int32.ofNat (q + i))), .val (.int (Int32.ofNat len)), .val (.int (Int32.ofNat i)), z] [])) → ∃ (T' : State) (B' : Cell) (z' : Slot), Stand p l e { frames := 0, locals := 0, cells := 0, slots := 0 } s m #[.ref b, .int (Int32.ofNat o), .ref d, .int (Int32.ofNat q), .int (Int32.ofNat len)] below meth c T' ([] ++ copyLocs d q len) 0 0 ∧ Put d B' s₁ T' ∧ Laid B B' q (q + len) (fun j => Value.int (lo8 (cv A (o + (j - q))))) ∧
      Steps p.tables e below (s₁.setTop (entryFrame m #[.ref b, .int (Int32.ofNat o), .ref d, .int (Int32.ofNat q), .int (Int32.ofNat len)] 7)) (T'.setTop (mkF m 3 #[.val (.ref b), .val (.int (Int32.ofNat (o + len))), .val (.ref d), .val (.int (Int32.ofNat (q + len))), .val (.int (Int32.ofNat len)), .val (.int (Int32.ofNat len)), z'] [])) := by
    intro r
    induction r with
    | zero =>
      intro i hi z hz Tl Bk Xl pl fl cl
      have hil : i = len := by omega
      rw [hil] at Xl fl cl
      exact ⟨Tl, Bk, z, Xl, pl, fl, cl⟩
    | succ r ih =>
      intro i hi z hz Tl Bk Xl pl fl cl
      have all := X0.warmed.alike.symm.trans Xl.warmed.alike
      have hAl := hA0.keep all (pl.other hne hA0.1)
      have hBk := hB0.like all pl.1 fl.1 fl.2.1 fl.2.2.1
      have hlt : q + i < Bk.slots.size := by rw [fl.2.2.1]; omega
      have c3 : Steps p.tables e below (s₁.setTop (entryFrame m #[.ref b, .int (Int32.ofNat o), .ref d, .int (Int32.ofNat q), .int (Int32.ofNat len)] 7)) (Tl.setTop (mkF m 12 #[.val (.ref b), .val (.int (Int32.ofNat (o + i))), .val (.ref d), .val (.int (Int32.ofNat (q + i))), .val (.int (Int32.ofNat len)), .val (.int (Int32.ofNat i)), z] [.int (Int32.ofNat (o + i)), .ref b])) := cl.trans (by
        refine XS.iload Xl.here hexec rfl (hb hbytes d3) rfl ?_
        refine XS.iload Xl.here hexec rfl (hb hbytes d5) rfl ?_
        refine XS.icmpNo Xl.here hexec rfl (hb hbytes d7) rfl (ii_ge_f (lt32 (by omega) (by omega))) ?_
        refine XS.aloadN Xl.here hexec rfl (hb hbytes d10) rfl rfl ?_
        refine XS.iloadN Xl.here hexec rfl (hb hbytes d11) rfl ?_
        exact Steps.refl _)
      have c4 : Steps p.tables e below (s₁.setTop (entryFrame m #[.ref b, .int (Int32.ofNat o), .ref d, .int (Int32.ofNat q), .int (Int32.ofNat len)] 7)) (Tl.setTop (mkF m 13 #[.val (.ref b), .val (.int (Int32.ofNat (o + i))), .val (.ref d), .val (.int (Int32.ofNat (q + i))), .val (.int (Int32.ofNat len)), .val (.int (Int32.ofNat i)), z] [.int (cv A (o + i))])) := c3.trans (by
        refine Xl.aget hexec hAl rfl (hA.get (i := o + i) (by omega)) rfl rfl (hb hbytes d12) ?_
        exact Steps.refl _)
      have c5 : Steps p.tables e below (s₁.setTop (entryFrame m #[.ref b, .int (Int32.ofNat o), .ref d, .int (Int32.ofNat q), .int (Int32.ofNat len)] 7)) (Tl.setTop (mkF m 15 #[.val (.ref b), .val (.int (Int32.ofNat (o + i))), .val (.ref d), .val (.int (Int32.ofNat (q + i))), .val (.int (Int32.ofNat len)), .val (.int (Int32.ofNat i)), .val (.int (cv A (o + i)))] [])) := c4.trans (by
        refine XS.istoreS Xl.here hexec rfl (hb hbytes d13) rfl rfl hz ?_
        exact Steps.refl _)
      have c6 : Steps p.tables e below (s₁.setTop (entryFrame m #[.ref b, .int (Int32.ofNat o), .ref d, .int (Int32.ofNat q), .int (Int32.ofNat len)] 7)) (Tl.setTop (mkF m 31 #[.val (.ref b), .val (.int (Int32.ofNat (o + i))), .val (.ref d), .val (.int (Int32.ofNat (q + i))), .val (.int (Int32.ofNat len)), .val (.int (Int32.ofNat i)), .val (.int (cv A (o + i)))] [.int (lo8 (cv A (o + i))), .int (Int32.ofNat (q + i)), .ref d])) := c5.trans (by
        refine XS.iload Xl.here hexec rfl (hb hbytes d15) rfl ?_
        refine sipushV Xl.here hexec rfl 255 (hb hbytes d17) (by decide) ?_
        refine XS.icmpYes Xl.here hexec rfl (pc0 := 20) rfl (hb hbytes d20) rfl (ii_le_t (hp i (by omega))) (by decide) rfl ?_
        refine XS.aloadN Xl.here hexec rfl (hb hbytes d26) rfl rfl ?_
        refine XS.iloadN Xl.here hexec rfl (hb hbytes d27) rfl ?_
        refine XS.iload Xl.here hexec rfl (hb hbytes d28) rfl ?_
        refine i2b Xl.here hexec rfl (hb hbytes d30) rfl ?_
        exact Steps.refl _)
      obtain ⟨T7, X7, p7, st7⟩ := Xl.aput hexec hBk rfl hlt rfl (fits_lo8 (cv A (o + i))) (g := (mkF m 31 #[.val (.ref b), .val (.int (Int32.ofNat (o + i))), .val (.ref d), .val (.int (Int32.ofNat (q + i))), .val (.int (Int32.ofNat len)), .val (.int (Int32.ofNat i)), .val (.int (cv A (o + i)))] [.int (lo8 (cv A (o + i))), .int (Int32.ofNat (q + i)), .ref d])) rfl (rest := []) rfl (hb hbytes d31)
      have c8 : Steps p.tables e below (s₁.setTop (entryFrame m #[.ref b, .int (Int32.ofNat o), .ref d, .int (Int32.ofNat q), .int (Int32.ofNat len)] 7)) (T7.setTop (mkF m 32 #[.val (.ref b), .val (.int (Int32.ofNat (o + i))), .val (.ref d), .val (.int (Int32.ofNat (q + i))), .val (.int (Int32.ofNat len)), .val (.int (Int32.ofNat i)), .val (.int (cv A (o + i)))] [])) := c6.trans (st7 _ (Steps.refl _))
      have c9 : Steps p.tables e below (s₁.setTop (entryFrame m #[.ref b, .int (Int32.ofNat o), .ref d, .int (Int32.ofNat q), .int (Int32.ofNat len)] 7)) (T7.setTop (mkF m 3 #[.val (.ref b), .val (.int (Int32.ofNat (o + i) + 1)), .val (.ref d), .val (.int (Int32.ofNat (q + i) + 1)), .val (.int (Int32.ofNat len)), .val (.int (Int32.ofNat i + 1)), .val (.int (cv A (o + i)))] [])) := c8.trans (by
        refine iincV X7.here hexec rfl 1 (hb hbytes d32) (by decide) rfl rfl ?_
        refine iincV X7.here hexec rfl 1 (hb hbytes d35) (by decide) rfl rfl ?_
        refine iincV X7.here hexec rfl 1 (hb hbytes d38) (by decide) rfl rfl ?_
        refine XS.goto X7.here hexec rfl (pc0 := 41) rfl (hb hbytes d41) (by decide) rfl ?_
        exact Steps.refl _)
      have c10 : Steps p.tables e below (s₁.setTop (entryFrame m #[.ref b, .int (Int32.ofNat o), .ref d, .int (Int32.ofNat q), .int (Int32.ofNat len)] 7)) (T7.setTop (mkF m 3 #[.val (.ref b), .val (.int (Int32.ofNat (o + (i + 1)))), .val (.ref d), .val (.int (Int32.ofNat (q + (i + 1)))), .val (.int (Int32.ofNat len)), .val (.int (Int32.ofNat (i + 1))), .val (.int (cv A (o + i)))] [])) := by
        have := c9
        rw [succ32, succ32, succ32] at this
        exact this
      exact ih (i + 1) (by omega) _ (Or.inr ⟨_, rfl, rfl⟩) T7 _ (by rw [copyLocs_step, ← List.append_assoc]; exact X7) (pl.trans p7) (fl.step (by omega) hlt (by simp)) c10
  obtain ⟨T9, B9, z9, X9, p9, f9, g9⟩ := loop len 0 (by omega) .unset (Or.inl rfl) s₁ B (by simpa [copyLocs] using X0) ⟨hB0.1, fun _ _ => rfl, rfl⟩ (Laid.zero _ _ _) c2
  have c11 : Steps p.tables e below (s₁.setTop (entryFrame m #[.ref b, .int (Int32.ofNat o), .ref d, .int (Int32.ofNat q), .int (Int32.ofNat len)] 7)) (T9.setTop (mkF m 46 #[.val (.ref b), .val (.int (Int32.ofNat (o + len))), .val (.ref d), .val (.int (Int32.ofNat (q + len))), .val (.int (Int32.ofNat len)), .val (.int (Int32.ofNat len)), z9] [.int (Int32.ofNat len)])) := g9.trans (by
    refine XS.iload X9.here hexec rfl (hb hbytes d3) rfl ?_
    refine XS.iload X9.here hexec rfl (hb hbytes d5) rfl ?_
    refine XS.icmpYes X9.here hexec rfl (pc0 := 7) rfl (hb hbytes d7) rfl (ii_ge_t (nlt32 (by omega) (Nat.le_refl _))) (by decide) rfl ?_
    refine XS.iload X9.here hexec rfl (hb hbytes d44) rfl ?_
    exact Steps.refl _)
  exact ⟨T9, some (.int (Int32.ofNat len)), _, _, _, X9, by simp, rfl, rfl, (fun h => by cases h), ⟨rfl, B9, p9.from hh0, f9⟩, fun fs hl => c11.trans (X9.ireturnOut hexec hret rfl (Or.inl rfl) (hb hbytes d46) hl)⟩
end Cmp5
namespace Cmp3
def yN : MethodName := ⟨"java/lang/StringUTF16", "compress", "([CII)[B"⟩
abbrev yB : ByteArray := jdk_52_method_16_code
theorem d0 : decode yB 0 = .ok (.iload_n 2, 1) := by decide +kernel
theorem d1 : decode yB 1 = .ok (.newarray .byte, 2) := by decide +kernel
theorem d3 : decode yB 3 = .ok (.astore_n 3, 1) := by decide +kernel
theorem d4 : decode yB 4 = .ok (.aload_n 0, 1) := by decide +kernel
theorem d5 : decode yB 5 = .ok (.iload_n 1, 1) := by decide +kernel
theorem d6 : decode yB 6 = .ok (.aload_n 3, 1) := by decide +kernel
theorem d7 : decode yB 7 = .ok (.iconst 0, 1) := by decide +kernel
theorem d8 : decode yB 8 = .ok (.iload_n 2, 1) := by decide +kernel
theorem d9 : decode yB 9 = .ok (.invokestatic 115, 3) := by decide +kernel
theorem d12 : decode yB 12 = .ok (.istore 4, 2) := by decide +kernel
theorem d14 : decode yB 14 = .ok (.iload 4, 2) := by decide +kernel
theorem d16 : decode yB 16 = .ok (.iload_n 2, 1) := by decide +kernel
theorem d17 : decode yB 17 = .ok (.if_icmp (.eq) 40, 3) := by decide +kernel
theorem d57 : decode yB 57 = .ok (.aload_n 3, 1) := by decide +kernel
theorem d58 : decode yB 58 = .ok (.areturn, 1) := by decide +kernel
def site : List Cond := [.arrayClass .byte, Cmp5.tab] ++ staticW U16 115 Cmp5.yN
def tab : Cond := tabOf yN yB 6 (some (.array .byte)) site
def P (b : Addr) (A : Cell) (o len : Nat) (args : Array Value) (s : State) : Prop := args = #[.ref b, .int (Int32.ofNat o), .int (Int32.ofNat len)] ∧ Ch b A s ∧ o + len ≤ A.slots.size ∧ len ≤ 536870912 ∧ ∀ i, i < len → ¬ 255 < cv A (o + i)
def E (b : Addr) (A : Cell) (o len : Nat) (r : Option Value) (s u : State) : Prop := NewArr .byte "[B" len (fun j => .int (lo8 (cv A (o + j)))) r s u ∧ u.heap.size = s.heap.size + 1
/-- no char of the range above 255: a new byte[] of their low bytes -/
theorem law (l : Launch) (b : Addr) (A : Cell) (o len : Nat) : Law l yN 3 3 1 18 yB 6 (some (.array .byte)) site (P b A o len) (E b A o len) [] 1 len := by
  refine Law.of_walk (plainFor_of_name (by decide +kernel)) (by decide +kernel) (by decide +kernel) (by decide) (fun _ _ h => by rw [h.1]; rfl) (fun _ U U' hal hh h => ⟨h.1, h.2.1.mv hal hh, h.2.2⟩) (fun r U U' V V' h1 hal h2 h => ⟨NewArr.mv r U U' V V' h1 hal h2 h.1, by rw [h1, h2]; exact h.2⟩) ?_
  intro p e s m args below meth c s₁ X0 hexec hbytes hml hret hlk hnm hown hh0 W hP
  obtain ⟨rfl, hA, l1, l2, hp⟩ := hP
  have a31 := hA.1.2.2.2
  have c1 : Steps p.tables e below (s₁.setTop (entryFrame m #[.ref b, .int (Int32.ofNat o), .int (Int32.ofNat len)] 6)) (s₁.setTop (mkF m 0 #[.val (.ref b), .val (.int (Int32.ofNat o)), .val (.int (Int32.ofNat len)), .unset, .unset, .unset] [])) := entry rfl
  have c2 : Steps p.tables e below (s₁.setTop (entryFrame m #[.ref b, .int (Int32.ofNat o), .int (Int32.ofNat len)] 6)) (s₁.setTop (mkF m 1 #[.val (.ref b), .val (.int (Int32.ofNat o)), .val (.int (Int32.ofNat len)), .unset, .unset, .unset] [.int (Int32.ofNat len)])) := c1.trans (by
    refine XS.iloadN X0.here hexec rfl (hb hbytes d0) rfl ?_
    exact Steps.refl _)
  obtain ⟨T3, B3, X3, ba3, bs3, bv3, bh3, bf3, st3⟩ := X0.anew hexec (atype := .byte) (wk W (.arrayClass .byte)) rfl (by show len * 1 ≤ _; omega) (by omega) (g := (mkF m 1 #[.val (.ref b), .val (.int (Int32.ofNat o)), .val (.int (Int32.ofNat len)), .unset, .unset, .unset] [.int (Int32.ofNat len)])) rfl (hb hbytes d1) (rest := []) rfl (Nat.le_refl _) (by show 0 + len ≤ len; omega)
  rw [hh0] at ba3 st3
  have kp3 : XT.Kept s T3 := (XT.Kept.of_eq hh0).push bh3
  have hA3 := hA.keep X3.warmed.alike (kp3 _ _ hA.1.1)
  have hne : b ≠ s.heap.size := hA.1.ne
  have c4 : Steps p.tables e below (s₁.setTop (entryFrame m #[.ref b, .int (Int32.ofNat o), .int (Int32.ofNat len)] 6)) (T3.setTop (mkF m 3 #[.val (.ref b), .val (.int (Int32.ofNat o)), .val (.int (Int32.ofNat len)), .unset, .unset, .unset] [.ref s.heap.size])) := c2.trans (st3 _ (Steps.refl _))
  have c5 : Steps p.tables e below (s₁.setTop (entryFrame m #[.ref b, .int (Int32.ofNat o), .int (Int32.ofNat len)] 6)) (T3.setTop (mkF m 9 #[.val (.ref b), .val (.int (Int32.ofNat o)), .val (.int (Int32.ofNat len)), .val (.ref s.heap.size), .unset, .unset] [.int (Int32.ofNat len), .int 0, .ref s.heap.size, .int (Int32.ofNat o), .ref b])) := c4.trans (by
    refine XS.astoreN X3.here hexec rfl (hb hbytes d3) rfl rfl rfl ?_
    refine XS.aloadN X3.here hexec rfl (hb hbytes d4) rfl rfl ?_
    refine XS.iloadN X3.here hexec rfl (hb hbytes d5) rfl ?_
    refine XS.aloadN X3.here hexec rfl (hb hbytes d6) rfl rfl ?_
    refine iconstV X3.here hexec rfl 0 (hb hbytes d7) (by decide) ?_
    refine XS.iloadN X3.here hexec rfl (hb hbytes d8) rfl ?_
    exact Steps.refl _)
  obtain ⟨v6, T6, X6, E6, g6⟩ := X3.callS hexec (Cmp5.law l b A s.heap.size B3 o 0 len) hown (wks W (staticW U16 115 Cmp5.yN)) (wk W Cmp5.tab) (W := 0) (Nat.le_of_ble_eq_true rfl) (Nat.le_of_ble_eq_true rfl) (Nat.le_refl _) (by show 0 + len + 0 ≤ len; omega) (g := (mkF m 9 #[.val (.ref b), .val (.int (Int32.ofNat o)), .val (.int (Int32.ofNat len)), .val (.ref s.heap.size), .unset, .unset] [.int (Int32.ofNat len), .int (Int32.ofNat 0), .ref s.heap.size, .int (Int32.ofNat o), .ref b])) rfl (by rw [hml]; rfl) c5 (argsL := [.ref b, .int (Int32.ofNat o), .ref s.heap.size, .int (Int32.ofNat 0), .int (Int32.ofNat len)]) (rest := []) rfl rfl (by show 2 * 0 + 0 ≤ _; decide) (hb hbytes d9) (⟨rfl, hA3, ba3, hne, l1, by rw [bs3]; simp, hp⟩)
  obtain ⟨rfl, B6, p6, f6⟩ := E6
  have c7 : Steps p.tables e below (s₁.setTop (entryFrame m #[.ref b, .int (Int32.ofNat o), .int (Int32.ofNat len)] 6)) (T6.setTop (mkF m 12 #[.val (.ref b), .val (.int (Int32.ofNat o)), .val (.int (Int32.ofNat len)), .val (.ref s.heap.size), .unset, .unset] [.int (Int32.ofNat len)])) := g6
  have c8 : Steps p.tables e below (s₁.setTop (entryFrame m #[.ref b, .int (Int32.ofNat o), .int (Int32.ofNat len)] 6)) (T6.setTop (mkF m 58 #[.val (.ref b), .val (.int (Int32.ofNat o)), .val (.int (Int32.ofNat len)), .val (.ref s.heap.size), .val (.int (Int32.ofNat len)), .unset] [.ref s.heap.size])) := c7.trans (by
    refine XS.istore X6.here hexec rfl (hb hbytes d12) rfl rfl ?_
    refine XS.iload X6.here hexec rfl (hb hbytes d14) rfl ?_
    refine XS.iloadN X6.here hexec rfl (hb hbytes d16) rfl ?_
    refine XS.icmpYes X6.here hexec rfl (pc0 := 17) rfl (hb hbytes d17) rfl (ii_eq_t rfl) (by decide) rfl ?_
    refine XS.aloadN X6.here hexec rfl (hb hbytes d57) rfl rfl ?_
    exact Steps.refl _)
  have X8 := X6.wide (L' := []) (cells' := 1) (slots' := len) (fun x hx hlt => by
    simp only [List.nil_append, copyLocs, List.mem_map, List.mem_range] at hx
    obtain ⟨i, -, rfl⟩ := hx
    exact absurd hlt (Nat.lt_irrefl _)) (Nat.le_refl _) (by omega)
  exact ⟨T6, some (.ref s.heap.size), _, _, _, X8, rfl, rfl, rfl, (fun h => by cases h), ⟨⟨rfl, B6, ba3.like (X3.warmed.alike.symm.trans X6.warmed.alike) p6.1 f6.1 f6.2.1 f6.2.2.1, f6.2.1.trans bv3, by rw [X6.warmed.alike.findClass, f6.1]; exact bf3, by rw [f6.2.2.1, bs3]; simp, fun j hj => by rw [f6.2.2.2 j, if_pos (by omega)]; rfl, kp3.put p6 (Nat.le_refl _)⟩, by rw [p6.2.2, bh3, hh0]; simp⟩, fun fs hl => c8.trans (X8.areturnOut hexec rfl hret rfl (hb hbytes d58) hl)⟩
end Cmp3
namespace CodL
def yN : MethodName := ⟨"java/lang/StringUTF16", "coderFromArrayLen", "([BI)B"⟩
abbrev yB : ByteArray := jdk_52_method_15_code
theorem d0 : decode yB 0 = .ok (.iload_n 1, 1) := by decide +kernel
theorem d1 : decode yB 1 = .ok (.aload_n 0, 1) := by decide +kernel
theorem d2 : decode yB 2 = .ok (.arraylength, 1) := by decide +kernel
theorem d3 : decode yB 3 = .ok (.isub, 1) := by decide +kernel
theorem d4 : decode yB 4 = .ok (.bipush 31, 2) := by decide +kernel
theorem d6 : decode yB 6 = .ok (.iushr, 1) := by decide +kernel
theorem d7 : decode yB 7 = .ok (.i2b, 1) := by decide +kernel
theorem d8 : decode yB 8 = .ok (.ireturn, 1) := by decide +kernel
def site : List Cond := []
def tab : Cond := tabOf yN yB 2 (some .byte) site
def P (d : Addr) (B : Cell) (args : Array Value) (s : State) : Prop := args = #[.ref d, .int (Int32.ofNat B.slots.size)] ∧ Arr .byte d B s
def E (r : Option Value) (s u : State) : Prop := XT.PureE (some (.int 0)) r s u
/-- an array as long as the number of chars: LATIN1 -/
theorem law (l : Launch) (d : Addr) (B : Cell) : Law l yN 2 2 0 0 yB 2 (some .byte) site (P d B) E [] 0 0 := by
  refine Law.of_walk (plainFor_of_name (by decide +kernel)) (by decide +kernel) (by decide +kernel) (by decide) (fun _ _ h => by rw [h.1]; rfl) (fun _ U U' hal hh h => ⟨h.1, h.2.mv hal hh⟩) (fun r U U' V V' h1 hal h2 h => XT.PureE.mv r U U' V V' h1 hal h2 h) ?_
  intro p e s m args below meth c s₁ X0 hexec hbytes hml hret hlk hnm hown hh0 W hP
  obtain ⟨rfl, hB⟩ := hP
  have hB0 := hB.mv X0.warmed.alike hh0
  have c1 : Steps p.tables e below (s₁.setTop (entryFrame m #[.ref d, .int (Int32.ofNat B.slots.size)] 2)) (s₁.setTop (mkF m 0 #[.val (.ref d), .val (.int (Int32.ofNat B.slots.size))] [])) := entry rfl
  have c2 : Steps p.tables e below (s₁.setTop (entryFrame m #[.ref d, .int (Int32.ofNat B.slots.size)] 2)) (s₁.setTop (mkF m 2 #[.val (.ref d), .val (.int (Int32.ofNat B.slots.size))] [.ref d, .int (Int32.ofNat B.slots.size)])) := c1.trans (by
    refine XS.iloadN X0.here hexec rfl (hb hbytes d0) rfl ?_
    refine XS.aloadN X0.here hexec rfl (hb hbytes d1) rfl rfl ?_
    exact Steps.refl _)
  have c3 : Steps p.tables e below (s₁.setTop (entryFrame m #[.ref d, .int (Int32.ofNat B.slots.size)] 2)) (s₁.setTop (mkF m 8 #[.val (.ref d), .val (.int (Int32.ofNat B.slots.size))] [.int (lo8 (ushr (Int32.ofNat B.slots.size - Int32.ofNat B.slots.size) 31))])) := c2.trans (by
    refine X0.alen hexec hB0 rfl rfl (hb hbytes d2) ?_
    refine XS.isub X0.here hexec rfl (hb hbytes d3) rfl ?_
    refine bipushV X0.here hexec rfl 31 (hb hbytes d4) (by decide) ?_
    refine iushr X0.here hexec rfl (hb hbytes d6) rfl ?_
    refine i2b X0.here hexec rfl (hb hbytes d7) rfl ?_
    exact Steps.refl _)
  have e0 : lo8 (ushr (Int32.ofNat B.slots.size - Int32.ofNat B.slots.size) 31) = 0 := by rw [Int32.sub_self]; decide
  rw [e0] at c3
  exact ⟨s₁, some (.int 0), _, _, _, X0, rfl, rfl, rfl, (fun h => by cases h), ⟨rfl, hh0⟩, fun fs hl => c3.trans (X0.ireturnOut hexec hret rfl (Or.inr (Or.inr (Or.inl rfl))) (hb hbytes d8) hl)⟩
end CodL
/-- the String at a is Latin-1 over a new byte[] (the heap's one new cell): the low bytes of the len chars of A from o on; every cell but a is kept -/
def Got (a : Addr) (D : Cell) (fV fC : Field) (A : Cell) (o len : Nat) (r : Option Value) (s u : State) : Prop := r = none ∧ ∃ D' V : Cell, Blank "java/lang/String" a D' u ∧ Same D D' [fV.slot, fC.slot] ∧ D'.slots[fV.slot]? = some (.ref s.heap.size) ∧ D'.slots[fC.slot]? = some (.int 0) ∧ Arr .byte s.heap.size V u ∧ V.vm = .none ∧ u.vm.findClass "[B" = some V.cls ∧ V.slots.size = len ∧ (∀ j, j < len → V.slots[j]? = some (.int (lo8 (cv A (o + j))))) ∧ (∀ (y : Addr) (c : Cell), y ≠ a → s.heap[y]? = some c → u.heap[y]? = some c) ∧ u.heap.size = s.heap.size + 1
theorem Got.mv {a : Addr} {D A : Cell} {fV fC : Field} {o len : Nat} : ∀ r (U U' V V' : State), U'.heap = U.heap → V.vm.Alike V'.vm → V'.heap = V.heap → Got a D fV fC A o len r U V → Got a D fV fC A o len r U' V' :=
  fun r U U' V V' h1 hal h2 ⟨e0, D', X, a1, a2, a3, a4, a5, a6, a7, a8, a9, a10, a11⟩ => ⟨e0, D', X, a1.mv hal h2, a2, by rw [h1]; exact a3, a4, by rw [h1]; exact a5.mv hal h2, a6, by rw [hal.findClass]; exact a7, a8, a9, by rw [h1, h2]; exact a10, by rw [h1, h2]; exact a11⟩
namespace New4
def yN : MethodName := ⟨"java/lang/String", "<init>", "([CIILjava/lang/Void;)V"⟩
abbrev yB : ByteArray := jdk_42_method_149_code
theorem d0 : decode yB 0 = .ok (.aload_n 0, 1) := by decide +kernel
theorem d1 : decode yB 1 = .ok (.invokespecial 1, 3) := by decide +kernel
theorem d4 : decode yB 4 = .ok (.iload_n 3, 1) := by decide +kernel
theorem d5 : decode yB 5 = .ok (.ifCond (.ne) 22, 3) := by decide +kernel
theorem d27 : decode yB 27 = .ok (.getstatic 38, 3) := by decide +kernel
theorem d30 : decode yB 30 = .ok (.ifCond (.eq) 28, 3) := by decide +kernel
theorem d33 : decode yB 33 = .ok (.aload_n 1, 1) := by decide +kernel
theorem d34 : decode yB 34 = .ok (.iload_n 2, 1) := by decide +kernel
theorem d35 : decode yB 35 = .ok (.iload_n 3, 1) := by decide +kernel
theorem d36 : decode yB 36 = .ok (.invokestatic 177, 3) := by decide +kernel
theorem d39 : decode yB 39 = .ok (.astore 5, 2) := by decide +kernel
theorem d41 : decode yB 41 = .ok (.aload_n 0, 1) := by decide +kernel
theorem d42 : decode yB 42 = .ok (.aload 5, 2) := by decide +kernel
theorem d44 : decode yB 44 = .ok (.iload_n 3, 1) := by decide +kernel
theorem d45 : decode yB 45 = .ok (.invokestatic 47, 3) := by decide +kernel
theorem d48 : decode yB 48 = .ok (.putfield 15, 3) := by decide +kernel
theorem d51 : decode yB 51 = .ok (.aload_n 0, 1) := by decide +kernel
theorem d52 : decode yB 52 = .ok (.aload 5, 2) := by decide +kernel
theorem d54 : decode yB 54 = .ok (.putfield 9, 3) := by decide +kernel
theorem d57 : decode yB 57 = .ok (.return_, 1) := by decide +kernel
def site : List Cond := [.fieldLink "java/lang/String" 38 "java/lang/String" "COMPACT_STRINGS" "Z", Cmp3.tab, CodL.tab, .laysFinal "java/lang/String" "java/lang/String" "value" "[B", .fieldLink "java/lang/String" 9 "java/lang/String" "value" "[B", .laysFinal "java/lang/String" "java/lang/String" "coder" "B", .fieldLink "java/lang/String" 15 "java/lang/String" "coder" "B"] ++ objW "java/lang/String" 1 ++ staticW "java/lang/String" 177 Cmp3.yN ++ staticW "java/lang/String" 47 CodL.yN
def tab : Cond := tabOf yN yB 6 none site
def P (a : Addr) (D : Cell) (fV fC : Field) (b : Addr) (A : Cell) (z : Int32) (o len : Nat) (args : Array Value) (s : State) : Prop := args = #[.ref a, .ref b, .int (Int32.ofNat o), .int (Int32.ofNat len), .null] ∧ Blank "java/lang/String" a D s ∧ Found "java/lang/String" "value" "[B" fV s ∧ Found "java/lang/String" "coder" "B" fC s ∧ Ch b A s ∧ StaticIs s "java/lang/String" "COMPACT_STRINGS" "Z" (.int z) ∧ ¬ z = 0 ∧ 0 < len ∧ o + len ≤ A.slots.size ∧ len ≤ 536870912 ∧ ∀ i, i < len → ¬ 255 < cv A (o + i)
def E (a : Addr) (D : Cell) (fV fC : Field) (A : Cell) (o len : Nat) (r : Option Value) (s u : State) : Prop := Got a D fV fC A o len r s u
/-- len > 0, no char of the range above 255: a Latin-1 String of their low bytes -/
theorem law (l : Launch) (a : Addr) (D : Cell) (fV fC : Field) (b : Addr) (A : Cell) (z : Int32) (o len : Nat) : Law l yN 5 4 2 35 yB 6 none site (P a D fV fC b A z o len) (E a D fV fC A o len) [⟨a, fC.slot⟩, ⟨a, fV.slot⟩] 1 len := by
  refine Law.of_walk (plainFor_of_name (by decide +kernel)) (by decide +kernel) (by decide +kernel) (by decide) (fun _ _ h => by rw [h.1]; rfl) (fun _ U U' hal hh h => ⟨h.1, h.2.1.mv hal hh, h.2.2.1.al hal, h.2.2.2.1.al hal, h.2.2.2.2.1.mv hal hh, h.2.2.2.2.2.1.there hal hh, h.2.2.2.2.2.2⟩) (fun r U U' V V' h1 hal h2 h => Got.mv r U U' V V' h1 hal h2 h) ?_
  intro p e s m args below meth c s₁ X0 hexec hbytes hml hret hlk hnm hown hh0 W hP
  obtain ⟨rfl, hB, f1, f2, hA, s1, hz, l0, l1, l2, hp⟩ := hP
  have a31 := hA.1.2.2.2
  have c1 : Steps p.tables e below (s₁.setTop (entryFrame m #[.ref a, .ref b, .int (Int32.ofNat o), .int (Int32.ofNat len), .null] 6)) (s₁.setTop (mkF m 0 #[.val (.ref a), .val (.ref b), .val (.int (Int32.ofNat o)), .val (.int (Int32.ofNat len)), .val .null, .unset] [])) := entry rfl
  have c2 : Steps p.tables e below (s₁.setTop (entryFrame m #[.ref a, .ref b, .int (Int32.ofNat o), .int (Int32.ofNat len), .null] 6)) (s₁.setTop (mkF m 1 #[.val (.ref a), .val (.ref b), .val (.int (Int32.ofNat o)), .val (.int (Int32.ofNat len)), .val .null, .unset] [.ref a])) := c1.trans (by
    refine XS.aloadN X0.here hexec rfl (hb hbytes d0) rfl rfl ?_
    exact Steps.refl _)
  obtain ⟨T3, X3, q3, st3⟩ := X0.oinit hexec hown (wks W (objW "java/lang/String" 1)) (g := (mkF m 1 #[.val (.ref a), .val (.ref b), .val (.int (Int32.ofNat o)), .val (.int (Int32.ofNat len)), .val .null, .unset] [.ref a])) rfl (by rw [hml]; rfl) (rest := []) rfl (hb hbytes d1) (W := 0) (by show 2 * 0 + 0 ≤ _; decide) (Nat.le_of_ble_eq_true rfl) (Nat.le_of_ble_eq_true rfl)
  have hh3 := q3.trans hh0
  have c4 : Steps p.tables e below (s₁.setTop (entryFrame m #[.ref a, .ref b, .int (Int32.ofNat o), .int (Int32.ofNat len), .null] 6)) (T3.setTop (mkF m 27 #[.val (.ref a), .val (.ref b), .val (.int (Int32.ofNat o)), .val (.int (Int32.ofNat len)), .val .null, .unset] [])) := (c2.trans (st3 _ (Steps.refl _))).trans (by
    refine XS.iloadN X3.here hexec rfl (hb hbytes d4) rfl ?_
    refine XS.ifYes X3.here hexec rfl (pc0 := 5) rfl (hb hbytes d5) rfl (i0_ne_t (nz32 (by omega) l0)) (by decide) rfl ?_
    exact Steps.refl _)
  obtain ⟨T5, X5, q5, st5⟩ := X3.sget hexec hown (wk W (.fieldLink "java/lang/String" 38 "java/lang/String" "COMPACT_STRINGS" "Z")) s1 (fun _ _ h => by rw [hh3]; exact h) (g := (mkF m 27 #[.val (.ref a), .val (.ref b), .val (.int (Int32.ofNat o)), .val (.int (Int32.ofNat len)), .val .null, .unset] [])) rfl (hb hbytes d27)
  have hh5 := q5.trans hh3
  have c6 : Steps p.tables e below (s₁.setTop (entryFrame m #[.ref a, .ref b, .int (Int32.ofNat o), .int (Int32.ofNat len), .null] 6)) (T5.setTop (mkF m 30 #[.val (.ref a), .val (.ref b), .val (.int (Int32.ofNat o)), .val (.int (Int32.ofNat len)), .val .null, .unset] [.int z])) := c4.trans (st5 _ (Steps.refl _))
  have c7 : Steps p.tables e below (s₁.setTop (entryFrame m #[.ref a, .ref b, .int (Int32.ofNat o), .int (Int32.ofNat len), .null] 6)) (T5.setTop (mkF m 36 #[.val (.ref a), .val (.ref b), .val (.int (Int32.ofNat o)), .val (.int (Int32.ofNat len)), .val .null, .unset] [.int (Int32.ofNat len), .int (Int32.ofNat o), .ref b])) := c6.trans (by
    refine XS.ifNo X5.here hexec rfl (hb hbytes d30) rfl (i0_eq_f hz) ?_
    refine XS.aloadN X5.here hexec rfl (hb hbytes d33) rfl rfl ?_
    refine XS.iloadN X5.here hexec rfl (hb hbytes d34) rfl ?_
    refine XS.iloadN X5.here hexec rfl (hb hbytes d35) rfl ?_
    exact Steps.refl _)
  obtain ⟨v8, T8, X8, E8, g8⟩ := X5.callS hexec (Cmp3.law l b A o len) hown (wks W (staticW "java/lang/String" 177 Cmp3.yN)) (wk W Cmp3.tab) (W := 0) (Nat.le_of_ble_eq_true rfl) (Nat.le_of_ble_eq_true rfl) (Nat.le_refl _) (by show 0 + len ≤ len; omega) (g := (mkF m 36 #[.val (.ref a), .val (.ref b), .val (.int (Int32.ofNat o)), .val (.int (Int32.ofNat len)), .val .null, .unset] [.int (Int32.ofNat len), .int (Int32.ofNat o), .ref b])) rfl (by rw [hml]; rfl) c7 (argsL := [.ref b, .int (Int32.ofNat o), .int (Int32.ofNat len)]) (rest := []) rfl rfl (by show 2 * 0 + 0 ≤ _; decide) (hb hbytes d36) (⟨rfl, hA.mv X5.warmed.alike hh5, l1, l2, hp⟩)
  obtain ⟨e8, z8⟩ := E8
  obtain ⟨rfl, N, n1, n2, n3, n4, n5, n6⟩ := NewArr.mv _ T5 s _ _ hh5.symm (Vm.Alike.refl _) rfl e8
  rw [hh5] at z8
  have hB1 := hB.keep X8.warmed.alike (n6 _ _ hB.1)
  have hne : s.heap.size ≠ a := (Nat.ne_of_lt (Array.getElem?_eq_some_iff.mp hB.1).1).symm
  have c9 : Steps p.tables e below (s₁.setTop (entryFrame m #[.ref a, .ref b, .int (Int32.ofNat o), .int (Int32.ofNat len), .null] 6)) (T8.setTop (mkF m 39 #[.val (.ref a), .val (.ref b), .val (.int (Int32.ofNat o)), .val (.int (Int32.ofNat len)), .val .null, .unset] [.ref s.heap.size])) := g8
  have c10 : Steps p.tables e below (s₁.setTop (entryFrame m #[.ref a, .ref b, .int (Int32.ofNat o), .int (Int32.ofNat len), .null] 6)) (T8.setTop (mkF m 45 #[.val (.ref a), .val (.ref b), .val (.int (Int32.ofNat o)), .val (.int (Int32.ofNat len)), .val .null, .val (.ref s.heap.size)] [.int (Int32.ofNat N.slots.size), .ref s.heap.size, .ref a])) := by
    have hc : Steps p.tables e below (s₁.setTop (entryFrame m #[.ref a, .ref b, .int (Int32.ofNat o), .int (Int32.ofNat len), .null] 6)) (T8.setTop (mkF m 45 #[.val (.ref a), .val (.ref b), .val (.int (Int32.ofNat o)), .val (.int (Int32.ofNat len)), .val .null, .val (.ref s.heap.size)] [.int (Int32.ofNat len), .ref s.heap.size, .ref a])) := c9.trans (by
      refine XS.astore X8.here hexec rfl (hb hbytes d39) rfl rfl rfl ?_
      refine XS.aloadN X8.here hexec rfl (hb hbytes d41) rfl rfl ?_
      refine XS.aload X8.here hexec rfl (hb hbytes d42) rfl rfl ?_
      refine XS.iloadN X8.here hexec rfl (hb hbytes d44) rfl ?_
      exact Steps.refl _)
    rw [n4]; exact hc
  obtain ⟨v11, T11, X11, E11, g11⟩ := X8.callS hexec (CodL.law l s.heap.size N) hown (wks W (staticW "java/lang/String" 47 CodL.yN)) (wk W CodL.tab) (W := 1) (Nat.le_of_ble_eq_true rfl) (Nat.le_of_ble_eq_true rfl) (Nat.le_refl _) (by show 0 + len + 0 ≤ len; omega) (g := (mkF m 45 #[.val (.ref a), .val (.ref b), .val (.int (Int32.ofNat o)), .val (.int (Int32.ofNat len)), .val .null, .val (.ref s.heap.size)] [.int (Int32.ofNat N.slots.size), .ref s.heap.size, .ref a])) rfl (by rw [hml]; rfl) c10 (argsL := [.ref s.heap.size, .int (Int32.ofNat N.slots.size)]) (rest := [.ref a]) rfl rfl (by show 2 * 0 + (1 + 0) ≤ _; decide) (hb hbytes d45) (⟨rfl, n1⟩)
  obtain ⟨rfl, q11⟩ := E11
  have hB11 := hB1.mv (X8.warmed.alike.symm.trans X11.warmed.alike) q11
  have c12 : Steps p.tables e below (s₁.setTop (entryFrame m #[.ref a, .ref b, .int (Int32.ofNat o), .int (Int32.ofNat len), .null] 6)) (T11.setTop (mkF m 48 #[.val (.ref a), .val (.ref b), .val (.int (Int32.ofNat o)), .val (.int (Int32.ofNat len)), .val .null, .val (.ref s.heap.size)] [.int 0, .ref a])) := g11
  obtain ⟨T13, X13, p13, bl13, sl13, st13⟩ := X11.finit hexec hown (wk W (.fieldLink "java/lang/String" 15 "java/lang/String" "coder" "B")) (Or.inr ⟨_, (wk W (.laysFinal "java/lang/String" "java/lang/String" "coder" "B"))⟩) (Or.inl ⟨rfl, hnm⟩) f2 (Or.inl rfl) hB11 (t := .byte) (by decide +kernel) rfl (g := (mkF m 48 #[.val (.ref a), .val (.ref b), .val (.int (Int32.ofNat o)), .val (.int (Int32.ofNat len)), .val .null, .val (.ref s.heap.size)] [.int 0, .ref a])) rfl (rest := []) rfl (hb hbytes d48)
  have c14 : Steps p.tables e below (s₁.setTop (entryFrame m #[.ref a, .ref b, .int (Int32.ofNat o), .int (Int32.ofNat len), .null] 6)) (T13.setTop (mkF m 54 #[.val (.ref a), .val (.ref b), .val (.int (Int32.ofNat o)), .val (.int (Int32.ofNat len)), .val .null, .val (.ref s.heap.size)] [.ref s.heap.size, .ref a])) := (c12.trans (st13 _ (Steps.refl _))).trans (by
    refine XS.aloadN X13.here hexec rfl (hb hbytes d51) rfl rfl ?_
    refine XS.aload X13.here hexec rfl (hb hbytes d52) rfl rfl ?_
    exact Steps.refl _)
  obtain ⟨T15, X15, p15, bl15, sl15, st15⟩ := X13.finit hexec hown (wk W (.fieldLink "java/lang/String" 9 "java/lang/String" "value" "[B")) (Or.inr ⟨_, (wk W (.laysFinal "java/lang/String" "java/lang/String" "value" "[B"))⟩) (Or.inl ⟨rfl, hnm⟩) f1 (Or.inl rfl) bl13 (t := (.array .byte)) (by decide +kernel) rfl (g := (mkF m 54 #[.val (.ref a), .val (.ref b), .val (.int (Int32.ofNat o)), .val (.int (Int32.ofNat len)), .val .null, .val (.ref s.heap.size)] [.ref s.heap.size, .ref a])) rfl (rest := []) rfl (hb hbytes d54)
  have c16 : Steps p.tables e below (s₁.setTop (entryFrame m #[.ref a, .ref b, .int (Int32.ofNat o), .int (Int32.ofNat len), .null] 6)) (T15.setTop (mkF m 57 #[.val (.ref a), .val (.ref b), .val (.int (Int32.ofNat o)), .val (.int (Int32.ofNat len)), .val .null, .val (.ref s.heap.size)] [])) := c14.trans (st15 _ (Steps.refl _))
  have ap := apart (Or.inr ⟨_, (wk W (.laysFinal "java/lang/String" "java/lang/String" "value" "[B"))⟩) (Or.inr ⟨_, (wk W (.laysFinal "java/lang/String" "java/lang/String" "coder" "B"))⟩) f1 f2 (t₁ := .array .byte) (t₂ := .byte) (by decide +kernel) (by decide +kernel) (by decide)
  have al := X8.warmed.alike.symm.trans X15.warmed.alike
  have n7 : T11.heap[s.heap.size]? = some N := by rw [q11]; exact n1.1
  exact ⟨T15, none, _, _, _, X15, by simp, rfl, by omega, (fun _ => rfl), ⟨rfl, _, N, bl15, ((Same.refl D _).set _ (by simp)).set _ (by simp), sl15, (Cell.slots_setSlot_ne _ ap).trans sl13, n1.keep al (p15.other hne (p13.other hne n7)), n2, by rw [al.findClass]; exact n3, n4, n5, fun y c h1 h2 => p15.other h1 (p13.other h1 (by rw [q11]; exact n6 y c h2)), by rw [p15.2.2, p13.2.2, q11]; exact z8⟩, fun fs hl => c16.trans (X15.returnOut hexec hret (hb hbytes d57) hl)⟩
end New4
namespace New1
def yN : MethodName := ⟨"java/lang/String", "<init>", "([C)V"⟩
abbrev yB : ByteArray := jdk_42_method_3_code
theorem d0 : decode yB 0 = .ok (.aload_n 0, 1) := by decide +kernel
theorem d1 : decode yB 1 = .ok (.aload_n 1, 1) := by decide +kernel
theorem d2 : decode yB 2 = .ok (.iconst 0, 1) := by decide +kernel
theorem d3 : decode yB 3 = .ok (.aload_n 1, 1) := by decide +kernel
theorem d4 : decode yB 4 = .ok (.arraylength, 1) := by decide +kernel
theorem d5 : decode yB 5 = .ok (.aconst_null, 1) := by decide +kernel
theorem d6 : decode yB 6 = .ok (.invokespecial 27, 3) := by decide +kernel
theorem d9 : decode yB 9 = .ok (.return_, 1) := by decide +kernel
def site : List Cond := [New4.tab] ++ initW "java/lang/String" 27 New4.yN
def tab : Cond := tabOf yN yB 2 none site
def P (a : Addr) (D : Cell) (fV fC : Field) (b : Addr) (A : Cell) (z : Int32) (args : Array Value) (s : State) : Prop := args = #[.ref a, .ref b] ∧ Blank "java/lang/String" a D s ∧ Found "java/lang/String" "value" "[B" fV s ∧ Found "java/lang/String" "coder" "B" fC s ∧ Ch b A s ∧ StaticIs s "java/lang/String" "COMPACT_STRINGS" "Z" (.int z) ∧ ¬ z = 0 ∧ 0 < A.slots.size ∧ A.slots.size ≤ 536870912 ∧ ∀ i, i < A.slots.size → ¬ 255 < cv A i
def E (a : Addr) (D : Cell) (fV fC : Field) (A : Cell) (r : Option Value) (s u : State) : Prop := Got a D fV fC A 0 A.slots.size r s u
/-- new String(chars), not empty, no char above 255: a Latin-1 String of their low bytes -/
theorem law (l : Launch) (a : Addr) (D : Cell) (fV fC : Field) (b : Addr) (A : Cell) (z : Int32) : Law l yN 2 1 3 52 yB 2 none site (P a D fV fC b A z) (E a D fV fC A) [⟨a, fC.slot⟩, ⟨a, fV.slot⟩] 1 A.slots.size := by
  refine Law.of_walk (plainFor_of_name (by decide +kernel)) (by decide +kernel) (by decide +kernel) (by decide) (fun _ _ h => by rw [h.1]; rfl) (fun _ U U' hal hh h => ⟨h.1, h.2.1.mv hal hh, h.2.2.1.al hal, h.2.2.2.1.al hal, h.2.2.2.2.1.mv hal hh, h.2.2.2.2.2.1.there hal hh, h.2.2.2.2.2.2⟩) (fun r U U' V V' h1 hal h2 h => Got.mv r U U' V V' h1 hal h2 h) ?_
  intro p e s m args below meth c s₁ X0 hexec hbytes hml hret hlk hnm hown hh0 W hP
  obtain ⟨rfl, hB, f1, f2, hA, s1, hz, l0, l2, hp⟩ := hP
  have c1 : Steps p.tables e below (s₁.setTop (entryFrame m #[.ref a, .ref b] 2)) (s₁.setTop (mkF m 0 #[.val (.ref a), .val (.ref b)] [])) := entry rfl
  have c2 : Steps p.tables e below (s₁.setTop (entryFrame m #[.ref a, .ref b] 2)) (s₁.setTop (mkF m 6 #[.val (.ref a), .val (.ref b)] [.null, .int (Int32.ofNat A.slots.size), .int 0, .ref b, .ref a])) := c1.trans (by
    refine XS.aloadN X0.here hexec rfl (hb hbytes d0) rfl rfl ?_
    refine XS.aloadN X0.here hexec rfl (hb hbytes d1) rfl rfl ?_
    refine iconstV X0.here hexec rfl 0 (hb hbytes d2) (by decide) ?_
    refine XS.aloadN X0.here hexec rfl (hb hbytes d3) rfl rfl ?_
    refine X0.alen hexec (hA.1.mv X0.warmed.alike hh0) rfl rfl (hb hbytes d4) ?_
    refine XS.aconstNull X0.here hexec rfl (hb hbytes d5) ?_
    exact Steps.refl _)
  obtain ⟨v3, T3, X3, E3, g3⟩ := X0.callN hexec (New4.law l a D fV fC b A z 0 A.slots.size) rfl hown (wks W (initW "java/lang/String" 27 New4.yN)) (W New4.tab (by simp only [site, List.mem_cons, List.mem_append, true_or, or_true])) (W := 0) (Nat.le_of_ble_eq_true rfl) (Nat.le_of_ble_eq_true rfl) (Nat.le_refl _) (by show 0 + A.slots.size ≤ A.slots.size; omega) (g := (mkF m 6 #[.val (.ref a), .val (.ref b)] [.null, .int (Int32.ofNat A.slots.size), .int (Int32.ofNat 0), .ref b, .ref a])) rfl (by rw [hml]; rfl) c2 (argsL := [.ref b, .int (Int32.ofNat 0), .int (Int32.ofNat A.slots.size), .null]) (rest := []) rfl rfl (by show 2 * 0 + 0 ≤ _; decide) (hb hbytes d6) (⟨rfl, hB.mv X0.warmed.alike hh0, f1.al X0.warmed.alike, f2.al X0.warmed.alike, hA.mv X0.warmed.alike hh0, s1.there X0.warmed.alike hh0, hz, l0, by omega, l2, fun i hi => by rw [Nat.zero_add]; exact hp i hi⟩)
  have e0 := Got.mv _ s₁ s _ _ hh0.symm (Vm.Alike.refl _) rfl E3
  obtain rfl := e0.1
  have c4 : Steps p.tables e below (s₁.setTop (entryFrame m #[.ref a, .ref b] 2)) (T3.setTop (mkF m 9 #[.val (.ref a), .val (.ref b)] [])) := g3
  exact ⟨T3, none, _, _, _, X3, by simp, rfl, by omega, (fun _ => rfl), e0, fun fs hl => c4.trans (X3.returnOut hexec hret (hb hbytes d9) hl)⟩
theorem pays {l : Launch} {R : Room} {p : Program} {e : Env} {below : List Frame} {s : State} {sargs : Array Value} {len W : Nat} (a : Addr) (D : Cell) (fV fC : Field) (b : Addr) (A : Cell) (z : Int32) (htab : tab.before sargs s = true) (hfr : 4 ≤ R.frames) (hlo : W + 65 ≤ R.locals) :
    Back l R p e below s sargs yN len W (fun A₁ a₁ => A₁.cells + 1 ≤ R.cells ∧ A₁.slots + A.slots.size ≤ R.slots ∧ P a D fV fC b A z a₁ A₁.U) (fun A₁ _ v₁ B₁ => E a D fV fC A v₁ A₁.U B₁.U ∧ B₁.locs = A₁.locs ++ [⟨a, fC.slot⟩, ⟨a, fV.slot⟩] ∧ B₁.cells = A₁.cells + 1 ∧ B₁.slots = A₁.slots + A.slots.size) :=
  (law l a D fV fC b A z).pays htab hfr (by omega)
end New1
end StrChars
namespace StrChars.Road
open Jvm Sem ClassFile Op Lib Jvm.Stand Jvm.Free Jvm.Free.XT
open Jvm.Lib.Cold (StaticIs)
abbrev ST : String := "java/lang/String"
/-- every table word that New1's law asks, flat -/
abbrev words : List Jvm.Cond := [.code New1.yN New1.yB 2 none, .initialized ST, .methodLink ST 27 New4.yN, .instanceMethod New4.yN,
  .code New4.yN New4.yB 6 none, .fieldLink ST 38 ST "COMPACT_STRINGS" "Z", .laysFinal ST ST "value" "[B", .fieldLink ST 9 ST "value" "[B", .laysFinal ST ST "coder" "B", .fieldLink ST 15 ST "coder" "B",
  .methodLink ST 1 Lib.objectInit, .instanceMethod Lib.objectInit, .code Lib.objectInit ⟨#[0xb1]⟩ 1 none, .methodLink ST 177 Cmp3.yN, .static Cmp3.yN, .methodLink ST 47 CodL.yN, .static CodL.yN,
  .code Cmp3.yN Cmp3.yB 6 (some (.array .byte)), .initialized U16, .arrayClass .byte, .methodLink U16 115 Cmp5.yN, .static Cmp5.yN, .code Cmp5.yN Cmp5.yB 7 (some .int), .code CodL.yN CodL.yB 2 (some .byte)]
theorem tab_of {a : Array Value} {s : State} (h : ∀ w ∈ words, w.before a s = true) : New1.tab.before a s = true := by
  have h5 : Cmp5.tab.before a s = true := unparts (wk h (.code Cmp5.yN Cmp5.yB 7 (some .int))) (wks h (.initialized Cmp5.yN.cls :: Cmp5.site))
  have hc : CodL.tab.before a s = true := unparts (wk h (.code CodL.yN CodL.yB 2 (some .byte))) (wks h (.initialized CodL.yN.cls :: CodL.site))
  have q5 : ∀ w ∈ Cmp5.tab :: words, w.before a s = true := fun w hw => (List.mem_cons.mp hw).elim (fun e => e ▸ h5) (h w)
  have h3 : Cmp3.tab.before a s = true := unparts (wk q5 (.code Cmp3.yN Cmp3.yB 6 (some (.array .byte)))) (wks q5 (.initialized Cmp3.yN.cls :: Cmp3.site))
  have q3 : ∀ w ∈ Cmp3.tab :: CodL.tab :: words, w.before a s = true := fun w hw => (List.mem_cons.mp hw).elim (fun e => e ▸ h3) fun hw => (List.mem_cons.mp hw).elim (fun e => e ▸ hc) (h w)
  have h4 : New4.tab.before a s = true := unparts (wk q3 (.code New4.yN New4.yB 6 none)) (wks q3 (.initialized New4.yN.cls :: New4.site))
  have q4 : ∀ w ∈ New4.tab :: words, w.before a s = true := fun w hw => (List.mem_cons.mp hw).elim (fun e => e ▸ h4) (h w)
  exact unparts (wk q4 (.code New1.yN New1.yB 2 none)) (wks q4 (.initialized New1.yN.cls :: New1.site))
/-- the words ride from the start Z to the walk's own state -/
theorem moved {Z s : State} {a0 args : Array Value} (hZ : Z.Warmed39 s.vm) (hw : ∀ d ∈ words, d.before a0 Z = true) : ∀ d ∈ words, d.before args s = true := fun d hd => by
  have q := hw d hd
  have t : ∀ d ∈ words, d = .arrayClass .byte ∨ (d.onTables && d.keepsFace) = true := by decide +kernel
  rcases t d hd with rfl | t
  · exact RoadKit.mvA hZ q
  · exact RoadKit.mv hZ q t
/-- WHAT COMES BACK, over the tables of the start Z: h the heap at the call, h' behind it -/
def Q (Z : State) (x : Addr) (A : Cell) (h : Heap) (v : Option Value) (h' : Heap) (L : List Loc) : Prop := v = none ∧ (∀ y ∈ L, y.base = x) ∧ RoadKit.Keep h h' [x] ∧ h'.size = h.size + 1 ∧ RoadKit.Exa Z h' x ST ∧ RoadKit.Fld Z h' x ST "value" "[B" (.ref h.size) ∧ RoadKit.Fld Z h' x ST "coder" "B" (.int 0) ∧
  (∃ V : Cell, RoadKit.Arr Z h' h.size V .byte ∧ V.vm = .none ∧ Z.vm.findClass "[B" = some V.cls ∧ V.slots.size = A.slots.size ∧ ∀ j, j < A.slots.size → V.slots[j]? = some (.int (lo8 (cv A j)))) ∧
  ∀ (O n d : String) (w : Value), RoadKit.Fld Z h x O n d w → RoadKit.slotOf Z O n d ≠ RoadKit.slotOf Z ST "value" "[B" → RoadKit.slotOf Z O n d ≠ RoadKit.slotOf Z ST "coder" "B" → RoadKit.Fld Z h' x O n d w
/-- **new String(chars) AT A CALL, IN THE ROAD'S FORM**: for specialBack behind newO: x the fresh String, b the char[] with the cell A -/
theorem back {p : Program} {l : Launch} {e : Env} {R : Room} {s : State} {args : Array Value} {below : List Frame} {len W : Nat} {Z : State} {a0 : Array Value} {h : Heap} (hZ : Z.Warmed39 s.vm) (hw : ∀ d ∈ words, d.before a0 Z = true) {kI : Nat} (wi : (Jvm.Cond.instantiable ST kI).before a0 Z = true)
    {x b : Addr} {A : Cell} {z : Int32} {v0 c0 : Value} (E : RoadKit.Exa Z h x ST) (V : RoadKit.Fld Z h x ST "value" "[B" v0) (C : RoadKit.Fld Z h x ST "coder" "B" c0) (K : RoadKit.Arr Z h b A .char) (hty : Typed .char A) (S : RoadKit.Sta Z h ST "COMPACT_STRINGS" "Z" (.int z)) (hz : ¬ z = 0)
    (l0 : 0 < A.slots.size) (l2 : A.slots.size ≤ 536870912) (hp : ∀ i, i < A.slots.size → ¬ 255 < cv A i) (hfr : 4 ≤ R.frames) (hlo : W + 65 ≤ R.locals) :
    Back l R p e below s args New1.yN len W (fun P a => a = #[.ref x, .ref b] ∧ P.U.heap = h ∧ P.cells + 1 ≤ R.cells ∧ P.slots + A.slots.size ≤ R.slots)
      (fun P _ v B => ∃ L, Q Z x A h v B.U.heap L ∧ B.locs = P.locs ++ L ∧ B.cells = P.cells + 1 ∧ B.slots = P.slots + A.slots.size) := by
  intro m meth c P g ig mk a X hg hsize hdg hW hn hp'
  obtain ⟨rfl, rfl, r1, r2⟩ := hp'
  have al : Z.vm.Alike P.U.vm := hZ.alike.trans X.warmed.alike
  obtain ⟨D, cfV, kV, iV, fV, hD, gV, stV, knV, obV, asV, slV⟩ := id V
  obtain ⟨D', cfC, kC, iC, fC, hD', gC, stC, -, -, asC, slC⟩ := id C
  cases hD.symm.trans hD'
  obtain ⟨D2, kD, e1, e2, e3, e4, e5⟩ := id E
  cases hD.symm.trans e1
  obtain ⟨c2, k2, i1, i2, i3, -⟩ := Cond.instantiable_spec wi
  cases e2.symm.trans i1
  cases e3.symm.trans i2
  obtain ⟨kU, u1, u2⟩ := al.2.2 _ _ e3
  have hB : Blank ST x D P.U := ⟨hD, ⟨knV, fun q hq => by rw [hq] at obV; cases obV⟩, by rw [al.findClass]; exact e2, kU, u1, by rw [u2]; exact i3, by rw [u2]; exact e5 i3⟩
  have F1 : Found ST "value" "[B" fV P.U := ⟨SBG.found_only al ⟨cfV, kV, iV, gV⟩, stV⟩
  have F2 : Found ST "coder" "B" fC P.U := ⟨SBG.found_only al ⟨cfC, kC, iC, gC⟩, stC⟩
  have hA : Ch b A P.U := ⟨⟨K.1, State.isArrayOf_alike al K.2.1, K.2.2, by omega⟩, hty⟩
  have hS : StaticIs P.U ST "COMPACT_STRINGS" "Z" (.int z) := by
    obtain ⟨cfS, iS, kS, fS, st, cS, t1, t2, t3, t4, t5, t6, t7⟩ := S
    exact StaticIs.there (s := { Z with heap := P.U.heap }) ⟨cfS, iS, kS, fS, st, cS, t1, t2, t3, t4, t5, (fun q => by rw [q] at t6; cases t6), t7⟩ al rfl
  obtain ⟨v, B, X', ⟨⟨hv, E', V', q1, q2, q3, q4, q5, q6, q7, q8, q9, q10, q11⟩, hl, hc, hs⟩, st⟩ := New1.pays x D fV fC b A z (tab_of (moved hZ hw)) hfr hlo m meth c P g ig mk _ X hg hsize hdg hW hn ⟨r1, r2, rfl, hB, F1, F2, hA, hS, hz, l0, l2, hp⟩
  have al' : Z.vm.Alike B.U.vm := hZ.alike.trans X'.warmed.alike
  have hsz : E'.slots.size = D.slots.size := by
    obtain ⟨-, -, -, kB, w1, w2, w3⟩ := q1
    obtain ⟨kB', y1, y2⟩ := al'.2.2 _ _ e3
    rw [q2.2.1] at w1
    cases w1.symm.trans y1
    rw [w3, e5 i3, y2]
  refine ⟨v, B, X', ⟨_, ⟨hv, ?_, ⟨by omega, fun y cy hy hn' => q10 y cy (by simpa using hn') hy, fun y cy hy => ?_⟩, q11, ⟨E', _, q1.1, by rw [q2.2.1]; exact e2, by rw [q2.2.1]; exact e3, by rw [q2.1]; exact obV, fun _ => by rw [hsz]; exact e5 i3⟩,
    ⟨E', cfV, kV, iV, fV, q1.1, gV, stV, by rw [q2.1]; exact knV, by rw [q2.1]; exact obV, by rw [q2.2.1]; exact asV, q3⟩, ⟨E', cfC, kC, iC, fC, q1.1, gC, stC, by rw [q2.1]; exact knV, by rw [q2.1]; exact obV, by rw [q2.2.1]; exact asC, q4⟩,
    ⟨V', ⟨q5.1, State.isArrayOf_alike al'.symm q5.2.1, q5.2.2.1⟩, q6, by rw [← al'.findClass]; exact q7, q8, fun j hj => by have := q9 j hj; rwa [Nat.zero_add] at this⟩, fun O n d w F n1 n2 => ?_⟩, hl, hc, hs⟩, st⟩
  · intro y hy
    simp only [List.mem_cons, List.not_mem_nil, or_false] at hy
    rcases hy with rfl | rfl <;> rfl
  · by_cases q : y = x
    · subst q
      cases hD.symm.trans hy
      exact ⟨E', q1.1, q2.2.1, q2.1, hsz⟩
    · exact ⟨cy, q10 y cy q hy, rfl, rfl, rfl⟩
  · obtain ⟨D3, cf, k, i, f, g1, g2, g3, g4, g5, g6, g7⟩ := F
    cases hD.symm.trans g1
    simp only [RoadKit.slotOf, g2, gV, gC, Option.map_some, Option.getD_some] at n1 n2
    exact ⟨E', cf, k, i, f, q1.1, g2, g3, by rw [q2.1]; exact g4, by rw [q2.1]; exact g5, by rw [q2.2.1]; exact g6, by rw [q2.2.2 f.slot (by simp [n1, n2])]; exact g7⟩
end StrChars.Road
namespace StrChars.Road
open Jvm Sem ClassFile Op Lib Jvm.Stand Jvm.Free Jvm.Free.XT
/-- WHAT COMES BACK, the byte[] as a list of values -/
def QA (Z : State) (x : Addr) (zn : Int32) (cs : List Int32) (h : Heap) (v : Option Value) (h' : Heap) (L : List Loc) : Prop := v = none ∧ (∀ y ∈ L, y.base = x) ∧ RoadKit.Keep h h' [x] ∧ h'.size = h.size + 1 ∧ RoadKit.Exa Z h' x ST ∧ RoadKit.Fld Z h' x ST "value" "[B" (.ref h.size) ∧ RoadKit.Fld Z h' x ST "coder" "B" (.int 0) ∧
  (∃ kb, Z.vm.findClass "[B" = some kb ∧ RoadKit.Arv Z h' h.size kb .byte zn (cs.map fun c => .int (lo8 c)) (.int 0)) ∧
  ∀ (O n d : String) (w : Value), RoadKit.Fld Z h x O n d w → RoadKit.slotOf Z O n d ≠ RoadKit.slotOf Z ST "value" "[B" → RoadKit.slotOf Z O n d ≠ RoadKit.slotOf Z ST "coder" "B" → RoadKit.Fld Z h' x O n d w
/-- **new String(chars) AT A CALL, THE ARRAYS AS LISTS**: the char[] at b holds cs, not empty, no char above 255 -/
theorem backArv {p : Program} {l : Launch} {e : Env} {R : Room} {s : State} {args : Array Value} {below : List Frame} {len W : Nat} {Z : State} {a0 : Array Value} {h : Heap} (hZ : Z.Warmed39 s.vm) (hw : ∀ d ∈ words, d.before a0 Z = true) {kI : Nat} (wi : (Jvm.Cond.instantiable ST kI).before a0 Z = true)
    {x b : Addr} {k : ClassId} {zn z : Int32} {cs : List Int32} {dv v0 c0 : Value} (E : RoadKit.Exa Z h x ST) (V : RoadKit.Fld Z h x ST "value" "[B" v0) (C : RoadKit.Fld Z h x ST "coder" "B" c0) (K : RoadKit.Arv Z h b k .char zn (cs.map Value.int) dv) (S : RoadKit.Sta Z h ST "COMPACT_STRINGS" "Z" (.int z)) (hz : ¬ z = 0)
    (hlen : zn.toNatClampNeg = cs.length) (h0 : 0 < cs.length) (hbig : cs.length ≤ 536870912) (hall : ∀ c ∈ cs, ¬ 255 < c) (hfr : 4 ≤ R.frames) (hlo : W + 65 ≤ R.locals) :
    Back l R p e below s args New1.yN len W (fun P a => a = #[.ref x, .ref b] ∧ P.U.heap = h ∧ P.cells + 1 ≤ R.cells ∧ P.slots + cs.length ≤ R.slots)
      (fun P _ v B => ∃ L, QA Z x zn cs h v B.U.heap L ∧ B.locs = P.locs ++ L ∧ B.cells = P.cells + 1 ∧ B.slots = P.slots + cs.length) := by
  obtain ⟨A, K1, K2, K3, K4, K5, K6⟩ := K
  have e : A.slots.size = cs.length := K3.trans hlen
  have hat : ∀ (i : Nat) (hi : i < cs.length), A.slots[i]? = some (.int cs[i]) := fun i hi => by rw [K5 i (by omega)]; simp [List.getD_eq_getElem?_getD, hi]
  have hcv : ∀ (i : Nat) (hi : i < cs.length), cv A i = cs[i] := fun i hi => by unfold cv; rw [hat i hi]
  have hty : Typed .char A := fun i v hv => by
    have hi : i < A.slots.size := (Array.getElem?_eq_some_iff.mp hv).1
    have q := K5 i hi
    rw [hv] at q
    rw [Option.some.inj q]
    exact K6 i hi
  refine Back.mono (back hZ hw wi E V C K1 hty S hz (by omega) (by omega) (fun i hi => by rw [hcv i (by omega)]; exact hall _ (List.getElem_mem _)) hfr hlo) (fun P a hp => ⟨hp.1, hp.2.1, hp.2.2.1, by rw [e]; exact hp.2.2.2⟩) (fun P a v B hp hq => ?_)
  obtain ⟨L, ⟨q1, q2, q3, q4, q5, q6, q7, ⟨V', v1, v2, v3, v4, v5⟩, q9⟩, hl, hc, hs⟩ := hq
  refine ⟨L, ⟨q1, q2, q3, q4, q5, q6, q7, ⟨V'.cls, v3, V', v1, rfl, by rw [v4, e, hlen], K4, fun i hi => ?_, fun i hi => ?_⟩, q9⟩, hl, hc, by rw [hs, e]⟩
  · have hi' : i < cs.length := by omega
    rw [v5 i (by omega), hcv i hi']; simp [List.getD_eq_getElem?_getD, hi']
  · have hi' : i < cs.length := by omega
    simp only [List.getD_eq_getElem?_getD, List.getElem?_map, List.getElem?_eq_getElem hi', Option.map_some, Option.getD_some]
    exact fits_lo8 _
end StrChars.Road
namespace StrChars.Road
open Jvm Sem ClassFile Op Lib Jvm.Stand Jvm.Free Jvm.Free.XT
/-- WHAT COMES BACK, in the writer's own shape -/
def QV (Z : State) (x : Addr) (N : Int32) (bs : List Int32) (h : Heap) (n0 : Nat) (v : Option Value) (h' : Heap) (L : List Loc) : Prop := v = none ∧ RoadKit.Fr n0 L ∧ RoadKit.Keep h h' [x] ∧ RoadKit.Exa Z h' x ST ∧ RoadKit.Fld Z h' x ST "coder" "B" (.int 0) ∧
  ∃ (t : Addr) (kb : ClassId), n0 ≤ t ∧ h.size ≤ t ∧ ¬ t = x ∧ RoadKit.Fld Z h' x ST "value" "[B" (.ref t) ∧ RoadKit.Arv Z h' t kb .byte N (bs.map Value.int) (.int 0)
/-- **new String(chars) AT A CALL, FOR THE WRITER**: a char[] of n known ints, each 0 to 255 -/
theorem backV {p : Program} {l : Launch} {e : Env} {R : Room} {s : State} {args : Array Value} {below : List Frame} {len W : Nat} {Z : State} {a0 : Array Value} {h : Heap} (hZ : Z.Warmed39 s.vm) (hw : ∀ d ∈ words, d.before a0 Z = true) {kI : Nat} (wi : (Jvm.Cond.instantiable ST kI).before a0 Z = true)
    {x b : Addr} {kC : ClassId} {cs bs : List Int32} {d v0 c0 : Value} {z N : Int32} {n n0 : Nat} (hx0 : n0 ≤ x) (hh0 : n0 ≤ h.size) (E : RoadKit.Exa Z h x ST) (V : RoadKit.Fld Z h x ST "value" "[B" v0) (C : RoadKit.Fld Z h x ST "coder" "B" c0) (K : RoadKit.Arv Z h b kC .char N (cs.map Value.int) d) (S : RoadKit.Sta Z h ST "COMPACT_STRINGS" "Z" (.int z)) (hz : ¬ z = 0)
    (hn : cs.length = n) (hN : N = Int32.ofNat n) (l0 : 0 < n) (l2 : n ≤ 4000) (hp : ∀ c ∈ cs, ¬ c < 0 ∧ ¬ (255 : Int32) < c) (hb : bs = cs.map (fun c => c.toInt8.toInt32)) (hfr : 4 ≤ R.frames) (hlo : W + 65 ≤ R.locals) :
    Back l R p e below s args (⟨"java/lang/String", "<init>", "([C)V"⟩ : MethodName) len W (fun P a => a = #[.ref x, .ref b] ∧ P.U.heap = h ∧ P.cells + 1 ≤ R.cells ∧ P.slots + n ≤ R.slots)
      (fun P _ v B => ∃ L, QV Z x N bs h n0 v B.U.heap L ∧ B.locs = P.locs ++ L ∧ B.cells = P.cells + 1 ∧ B.slots = P.slots + n) := by
  subst hn hN hb
  refine Back.mono (backArv hZ hw wi E V C K S hz (n32 (by omega)) l0 (by omega) (fun c hc => (hp c hc).2) hfr hlo) (fun P a hp => hp) (fun P a v B hp hq => ?_)
  obtain ⟨L, ⟨q1, q2, q3, q4, q5, q6, q7, ⟨kb, v1, v2⟩, q9⟩, hl, hc, hs⟩ := hq
  exact ⟨L, ⟨q1, fun y hy => by rw [q2 y hy]; exact hx0, q3, q5, q7, h.size, kb, hh0, Nat.le_refl _, Nat.ne_of_gt E.lt, q6, by rw [List.map_map]; exact v2⟩, hl, hc, hs⟩
end StrChars.Road
end Jvm.Pilot.@@N@@

namespace Jvm.RoadKit
open Sem ClassFile Op Lib Jvm.Stand Jvm.Free Jvm.LawKit
section New
variable {p : Program} {l : Launch} {e : Env} {R : Room} {s : State} {m : MethodId} {args : Array Value} {below : List Frame} {meth : Method} {c : Code} {T : State} {locs : List Loc} {cells slots : Nat}
theorem retI (X : Stand p l e R s m args below meth c T locs cells slots) (hx : p.tables.exec = Jvm.exec) {pc : Nat} {Ls : Array Slot} {z : Int32} {rest : List Value} (hret : meth.sig.returnType = some .int) (hd : decode c.code pc = .ok (.ireturn, 1)) {fs : List Frame}
    (hl : ∀ (f : JFrame) (acts : List Action), f.method = m → f.locked = none → f.entered = [] → (doReturn e (T.setTop f) acts (some (.int z))).1 = T.setFrames fs) : Steps p.tables e below (T.setTop (mkF m pc Ls (.int z :: rest))) (T.setFrames fs) :=
  retOut X hx hret rfl (Or.inl ⟨rfl, Or.inl rfl, _, rfl⟩) hd hl
end New
end Jvm.RoadKit
namespace Jvm.Pilot.@@N@@
open Jvm Jvm.ClassFile Sem Op Lib Jvm.Free Jvm.Stand Jvm.LawKit Jvm.RoadKit Bundle Jvm.Pilot.@@N@@.Jvm.D
theorem pn_0 : plainName "java/lang/Record" = true := by first | (simp [plainName, overriddenIn]; done) | decide +kernel
theorem d8_0 : decode jdk_30_method_1_code 0 = .ok (.aload_n 0, 1) := by decide +kernel
theorem d8_1 : decode jdk_30_method_1_code 1 = .ok (.invokespecial 1, 3) := by decide +kernel
theorem d8_4 : decode jdk_30_method_1_code 4 = .ok (.return_, 1) := by decide +kernel
theorem ef_rec (m : MethodId) (x0 : Addr) : entryFrame m #[(.ref x0)] 1 = mkF m 0 #[.val (.ref x0)] [] := by first | (simp [entryFrame, mkF, argsToLocals, Value.category]; done) | rfl
def Qrec (Z : State) (a1 : Addr) (h0 : Heap) (n0 : Nat) (v : Option Value) (h : Heap) (L : List Loc) : Prop := v = none ∧ Fr n0 L ∧ h = h0
set_option maxRecDepth 65536 in
set_option maxHeartbeats 40000000 in
theorem rmrec (l : Launch) (Z : State) (a0 : Array Value) (hw : ∀ d ∈ tables_1, d.before a0 Z = true) (ws : List Jvm.Cond) (a1 : Addr) (h0 : Heap) (n0 : Nat) (Z0 : n0 ≤ h0.size) :
    MetFree l (⟨"java/lang/Record", "<init>", "()V"⟩ : MethodName) (head1 (Jvm.Cond.code (⟨"java/lang/Record", "<init>", "()V"⟩ : MethodName) jdk_30_method_1_code 1 none :: ws) ({ frames := 1, cells := 0, slots := 0, locals := 12 } : Room)) (fun a U => a = #[(.ref a1)] ∧ Z.Warmed39 U.vm ∧ U.heap = h0) (fun _ _ _ _ _ => True) (fun _ U o U' => ∃ v L, o = .returned v ∧ Qrec Z a1 h0 n0 v U'.heap L ∧ FrameEnd U o U' L ({ frames := 1, cells := 0, slots := 0, locals := 12 } : Room).cells ({ frames := 1, cells := 0, slots := 0, locals := 12 } : Room).slots) := by
  refine MetFree.of_bodySF (plainFor_of_name pn_0) hisR ?_
  intro p e s m args below meth c s₁ Bd hml0 hP hK
  obtain ⟨rfl, hZ, hh⟩ := hP
  have hx := Bd.exec
  have hby := Bd.bytes
  have hml : c.maxLocals = 1 := hml0
  have hown : s.vm.findClass "java/lang/Record" = some m.cls := findClass_of_methodNamed Bd.named
  have hnm := (name_of_methodNamed Bd.named Bd.method).1
  have X0 : Stand p l e ({ frames := 1, cells := 0, slots := 0, locals := 12 } : Room) s m #[(.ref a1)] below meth c s₁ [] 0 0 := Stand.of_body Bd
  have e0 : s₁.heap = h0 := by rw [← hh, Bd.state]; rfl
  have N0 := Fr.nil n0
  have pre0 : ∀ t, Steps p.tables e below (s₁.setTop (mkF m 0 #[.val (.ref a1)] [])) t → Steps p.tables e below (s₁.setTop (entryFrame m #[(.ref a1)] 1)) t := fun t k => castTop (ef_rec m a1) k
  obtain ⟨T1, X1, e1, st1⟩ := initO X0 hx hZ hown (hw _ (List.mem_of_getElem? (i := 42) rfl)) (hw _ (List.mem_of_getElem? (i := 16) rfl)) (hw _ (List.mem_of_getElem? (i := 17) rfl)) e0 (g := (mkF m 1 #[.val (.ref a1)] [(.ref a1)])) rfl (by rw [hml]; rfl) rfl (hb hby d8_1) (by decide) (W := 0) (by show 2 * 0 + _ ≤ _; exact Nat.le_of_eq rfl) (by decide)
  obtain ⟨fs, hr, hrun, hended, hW, hsame⟩ := X1.leave (v := none) (fun _ => rfl) Bd.notSynchronized
  refine ⟨_, _, pre0 _ ?_, hrun, hended, _, _, rfl, ?_, ⟨_, rfl⟩, hW, hsame.mono (by decide) (by decide)⟩
  · show Steps p.tables e below (s₁.setTop (mkF m 0 #[.val (.ref a1)] [])) _
    refine XS.aloadN X0.here hx rfl (hb hby d8_0) rfl rfl ?_
    show Steps p.tables e below (s₁.setTop (mkF m 1 #[.val (.ref a1)] [(.ref a1)])) _
    refine st1 _ ?_
    show Steps p.tables e below (T1.setTop (mkF m 4 #[.val (.ref a1)] [])) _
    exact X1.returnOut hx Bd.returns (hb hby d8_4) hr
  · show Qrec Z a1 h0 n0 _ T1.heap _
    rw [e1]
    exact ⟨rfl, N0, rfl⟩
theorem pn_4 : plainName "com/example/strict_quota/strictquota/Audit" = true := by first | (simp [plainName, overriddenIn]; done) | decide +kernel
theorem d7_0 : decode prog_2_method_1_code 0 = .ok (.aload_n 0, 1) := by decide +kernel
theorem d7_1 : decode prog_2_method_1_code 1 = .ok (.invokespecial 1, 3) := by decide +kernel
theorem pd_7 : parseMethodDescriptor "()V" = some ⟨[], none⟩ := by decide +kernel
theorem d7_4 : decode prog_2_method_1_code 4 = .ok (.aload_n 0, 1) := by decide +kernel
theorem d7_5 : decode prog_2_method_1_code 5 = .ok (.aload_n 1, 1) := by decide +kernel
theorem d7_6 : decode prog_2_method_1_code 6 = .ok (.putfield 7, 3) := by decide +kernel
theorem d7_9 : decode prog_2_method_1_code 9 = .ok (.aload_n 0, 1) := by decide +kernel
theorem d7_10 : decode prog_2_method_1_code 10 = .ok (.lload_n 2, 1) := by decide +kernel
theorem d7_11 : decode prog_2_method_1_code 11 = .ok (.putfield 13, 3) := by decide +kernel
theorem d7_14 : decode prog_2_method_1_code 14 = .ok (.aload_n 0, 1) := by decide +kernel
theorem d7_15 : decode prog_2_method_1_code 15 = .ok (.lload 4, 2) := by decide +kernel
theorem d7_17 : decode prog_2_method_1_code 17 = .ok (.putfield 17, 3) := by decide +kernel
theorem d7_20 : decode prog_2_method_1_code 20 = .ok (.aload_n 0, 1) := by decide +kernel
theorem d7_21 : decode prog_2_method_1_code 21 = .ok (.lload 6, 2) := by decide +kernel
theorem d7_23 : decode prog_2_method_1_code 23 = .ok (.putfield 20, 3) := by decide +kernel
theorem d7_26 : decode prog_2_method_1_code 26 = .ok (.aload_n 0, 1) := by decide +kernel
theorem d7_27 : decode prog_2_method_1_code 27 = .ok (.lload 8, 2) := by decide +kernel
theorem d7_29 : decode prog_2_method_1_code 29 = .ok (.putfield 23, 3) := by decide +kernel
theorem d7_32 : decode prog_2_method_1_code 32 = .ok (.aload_n 0, 1) := by decide +kernel
theorem d7_33 : decode prog_2_method_1_code 33 = .ok (.lload 10, 2) := by decide +kernel
theorem d7_35 : decode prog_2_method_1_code 35 = .ok (.putfield 26, 3) := by decide +kernel
theorem d7_38 : decode prog_2_method_1_code 38 = .ok (.aload_n 0, 1) := by decide +kernel
theorem d7_39 : decode prog_2_method_1_code 39 = .ok (.lload 12, 2) := by decide +kernel
theorem d7_41 : decode prog_2_method_1_code 41 = .ok (.putfield 29, 3) := by decide +kernel
theorem d7_44 : decode prog_2_method_1_code 44 = .ok (.aload_n 0, 1) := by decide +kernel
theorem d7_45 : decode prog_2_method_1_code 45 = .ok (.lload 14, 2) := by decide +kernel
theorem d7_47 : decode prog_2_method_1_code 47 = .ok (.putfield 32, 3) := by decide +kernel
theorem d7_50 : decode prog_2_method_1_code 50 = .ok (.aload_n 0, 1) := by decide +kernel
theorem d7_51 : decode prog_2_method_1_code 51 = .ok (.lload 16, 2) := by decide +kernel
theorem d7_53 : decode prog_2_method_1_code 53 = .ok (.putfield 35, 3) := by decide +kernel
theorem d7_56 : decode prog_2_method_1_code 56 = .ok (.aload_n 0, 1) := by decide +kernel
theorem d7_57 : decode prog_2_method_1_code 57 = .ok (.lload 18, 2) := by decide +kernel
theorem d7_59 : decode prog_2_method_1_code 59 = .ok (.putfield 38, 3) := by decide +kernel
theorem d7_62 : decode prog_2_method_1_code 62 = .ok (.aload_n 0, 1) := by decide +kernel
theorem d7_63 : decode prog_2_method_1_code 63 = .ok (.lload 20, 2) := by decide +kernel
theorem d7_65 : decode prog_2_method_1_code 65 = .ok (.putfield 41, 3) := by decide +kernel
theorem d7_68 : decode prog_2_method_1_code 68 = .ok (.aload_n 0, 1) := by decide +kernel
theorem d7_69 : decode prog_2_method_1_code 69 = .ok (.lload 22, 2) := by decide +kernel
theorem d7_71 : decode prog_2_method_1_code 71 = .ok (.putfield 44, 3) := by decide +kernel
theorem d7_74 : decode prog_2_method_1_code 74 = .ok (.aload_n 0, 1) := by decide +kernel
theorem d7_75 : decode prog_2_method_1_code 75 = .ok (.lload 24, 2) := by decide +kernel
theorem d7_77 : decode prog_2_method_1_code 77 = .ok (.putfield 47, 3) := by decide +kernel
theorem d7_80 : decode prog_2_method_1_code 80 = .ok (.aload_n 0, 1) := by decide +kernel
theorem d7_81 : decode prog_2_method_1_code 81 = .ok (.lload 26, 2) := by decide +kernel
theorem d7_83 : decode prog_2_method_1_code 83 = .ok (.putfield 50, 3) := by decide +kernel
theorem d7_86 : decode prog_2_method_1_code 86 = .ok (.aload_n 0, 1) := by decide +kernel
theorem d7_87 : decode prog_2_method_1_code 87 = .ok (.lload 28, 2) := by decide +kernel
theorem d7_89 : decode prog_2_method_1_code 89 = .ok (.putfield 53, 3) := by decide +kernel
theorem d7_92 : decode prog_2_method_1_code 92 = .ok (.return_, 1) := by decide +kernel
theorem ef_ini (m : MethodId) (x0 : Addr) (x1 : Addr) (x2 : Int64) (x3 : Int64) (x4 : Int64) (x5 : Int64) (x6 : Int64) (x7 : Int64) (x8 : Int64) (x9 : Int64) (x10 : Int64) (x11 : Int64) (x12 : Int64) (x13 : Int64) (x14 : Int64) (x15 : Int64) : entryFrame m #[(.ref x0), (.ref x1), (.long x2), (.long x3), (.long x4), (.long x5), (.long x6), (.long x7), (.long x8), (.long x9), (.long x10), (.long x11), (.long x12), (.long x13), (.long x14), (.long x15)] 30 = mkF m 0 #[.val (.ref x0), .val (.ref x1), .val (.long x2), .second, .val (.long x3), .second, .val (.long x4), .second, .val (.long x5), .second, .val (.long x6), .second, .val (.long x7), .second, .val (.long x8), .second, .val (.long x9), .second, .val (.long x10), .second, .val (.long x11), .second, .val (.long x12), .second, .val (.long x13), .second, .val (.long x14), .second, .val (.long x15), .second] [] := by first | (simp [entryFrame, mkF, argsToLocals, Value.category]; done) | rfl
def Qini (Z : State) (a1 : Addr) (a2 : Addr) (q3 : Int64) (q4 : Int64) (q5 : Int64) (q6 : Int64) (q7 : Int64) (q8 : Int64) (q9 : Int64) (q10 : Int64) (q11 : Int64) (q12 : Int64) (q13 : Int64) (q14 : Int64) (q15 : Int64) (q16 : Int64) (u_capacity : Int64) (u_ceiling : Int64) (u_issued : Int64) (u_remaining : Int64) (u_grants : Int64) (u_returned : Int64) (u_holders : Int64) (u_maxPerHolder : Int64) (u_overCapacity : Int64) (u_overCeiling : Int64) (u_sequenceFirst : Int64) (u_sequenceLast : Int64) (u_sequenceMissing : Int64) (u_sequenceRepeated : Int64) (h0 : Heap) (n0 : Nat) (v : Option Value) (h : Heap) (L : List Loc) : Prop := v = none ∧ Fr n0 L ∧ Keep h0 h [a1] ∧ Exa Z h a1 "com/example/strict_quota/strictquota/Audit" ∧ Fld Z h a1 "com/example/strict_quota/strictquota/Audit" "capacity" "J" (.long q3) ∧ Fld Z h a1 "com/example/strict_quota/strictquota/Audit" "issued" "J" (.long q5) ∧ Fld Z h a1 "com/example/strict_quota/strictquota/Audit" "remaining" "J" (.long q6) ∧ Fld Z h a1 "com/example/strict_quota/strictquota/Audit" "overCapacity" "J" (.long q11) ∧ Fld Z h a1 "com/example/strict_quota/strictquota/Audit" "overCeiling" "J" (.long q12) ∧ Fld Z h a1 "com/example/strict_quota/strictquota/Audit" "sequenceMissing" "J" (.long q15) ∧ Fld Z h a1 "com/example/strict_quota/strictquota/Audit" "sequenceRepeated" "J" (.long q16)
set_option maxRecDepth 65536 in
set_option maxHeartbeats 40000000 in
theorem rmini (l : Launch) (Z : State) (a0 : Array Value) (hw : ∀ d ∈ tables_1, d.before a0 Z = true) (ws : List Jvm.Cond) (a1 : Addr) (a2 : Addr) (q3 : Int64) (q4 : Int64) (q5 : Int64) (q6 : Int64) (q7 : Int64) (q8 : Int64) (q9 : Int64) (q10 : Int64) (q11 : Int64) (q12 : Int64) (q13 : Int64) (q14 : Int64) (q15 : Int64) (q16 : Int64) (u_capacity : Int64) (u_ceiling : Int64) (u_issued : Int64) (u_remaining : Int64) (u_grants : Int64) (u_returned : Int64) (u_holders : Int64) (u_maxPerHolder : Int64) (u_overCapacity : Int64) (u_overCeiling : Int64) (u_sequenceFirst : Int64) (u_sequenceLast : Int64) (u_sequenceMissing : Int64) (u_sequenceRepeated : Int64) (h0 : Heap) (n0 : Nat) (Z0 : n0 ≤ h0.size) (E_a1 : Exa Z h0 a1 "com/example/strict_quota/strictquota/Audit") (F_pool_a1 : Fld Z h0 a1 "com/example/strict_quota/strictquota/Audit" "pool" "Ljava/lang/String;" .null) (F_capacity_a1 : Fld Z h0 a1 "com/example/strict_quota/strictquota/Audit" "capacity" "J" (.long u_capacity)) (F_ceiling_a1 : Fld Z h0 a1 "com/example/strict_quota/strictquota/Audit" "ceiling" "J" (.long u_ceiling)) (F_issued_a1 : Fld Z h0 a1 "com/example/strict_quota/strictquota/Audit" "issued" "J" (.long u_issued)) (F_remaining_a1 : Fld Z h0 a1 "com/example/strict_quota/strictquota/Audit" "remaining" "J" (.long u_remaining)) (F_grants_a1 : Fld Z h0 a1 "com/example/strict_quota/strictquota/Audit" "grants" "J" (.long u_grants)) (F_returned_a1 : Fld Z h0 a1 "com/example/strict_quota/strictquota/Audit" "returned" "J" (.long u_returned)) (F_holders_a1 : Fld Z h0 a1 "com/example/strict_quota/strictquota/Audit" "holders" "J" (.long u_holders)) (F_maxPerHolder_a1 : Fld Z h0 a1 "com/example/strict_quota/strictquota/Audit" "maxPerHolder" "J" (.long u_maxPerHolder)) (F_overCapacity_a1 : Fld Z h0 a1 "com/example/strict_quota/strictquota/Audit" "overCapacity" "J" (.long u_overCapacity)) (F_overCeiling_a1 : Fld Z h0 a1 "com/example/strict_quota/strictquota/Audit" "overCeiling" "J" (.long u_overCeiling)) (F_sequenceFirst_a1 : Fld Z h0 a1 "com/example/strict_quota/strictquota/Audit" "sequenceFirst" "J" (.long u_sequenceFirst)) (F_sequenceLast_a1 : Fld Z h0 a1 "com/example/strict_quota/strictquota/Audit" "sequenceLast" "J" (.long u_sequenceLast)) (F_sequenceMissing_a1 : Fld Z h0 a1 "com/example/strict_quota/strictquota/Audit" "sequenceMissing" "J" (.long u_sequenceMissing)) (F_sequenceRepeated_a1 : Fld Z h0 a1 "com/example/strict_quota/strictquota/Audit" "sequenceRepeated" "J" (.long u_sequenceRepeated)) (g_a1 : n0 ≤ a1) :
    MetFree l (⟨"com/example/strict_quota/strictquota/Audit", "<init>", "(Ljava/lang/String;JJJJJJJJJJJJJJ)V"⟩ : MethodName) (head1 (Jvm.Cond.code (⟨"com/example/strict_quota/strictquota/Audit", "<init>", "(Ljava/lang/String;JJJJJJJJJJJJJJ)V"⟩ : MethodName) prog_2_method_1_code 30 none :: ws) ({ frames := 2, cells := 0, slots := 0, locals := 24 } : Room)) (fun a U => a = #[(.ref a1), (.ref a2), (.long q3), (.long q4), (.long q5), (.long q6), (.long q7), (.long q8), (.long q9), (.long q10), (.long q11), (.long q12), (.long q13), (.long q14), (.long q15), (.long q16)] ∧ Z.Warmed39 U.vm ∧ U.heap = h0) (fun _ _ _ _ _ => True) (fun _ U o U' => ∃ v L, o = .returned v ∧ Qini Z a1 a2 q3 q4 q5 q6 q7 q8 q9 q10 q11 q12 q13 q14 q15 q16 u_capacity u_ceiling u_issued u_remaining u_grants u_returned u_holders u_maxPerHolder u_overCapacity u_overCeiling u_sequenceFirst u_sequenceLast u_sequenceMissing u_sequenceRepeated h0 n0 v U'.heap L ∧ FrameEnd U o U' L ({ frames := 2, cells := 0, slots := 0, locals := 24 } : Room).cells ({ frames := 2, cells := 0, slots := 0, locals := 24 } : Room).slots) := by
  refine MetFree.of_bodySF (plainFor_of_name pn_4) hisR ?_
  intro p e s m args below meth c s₁ Bd hml0 hP hK
  obtain ⟨rfl, hZ, hh⟩ := hP
  have hx := Bd.exec
  have hby := Bd.bytes
  have hml : c.maxLocals = 30 := hml0
  have hown : s.vm.findClass "com/example/strict_quota/strictquota/Audit" = some m.cls := findClass_of_methodNamed Bd.named
  have hnm := (name_of_methodNamed Bd.named Bd.method).1
  have X0 : Stand p l e ({ frames := 2, cells := 0, slots := 0, locals := 24 } : Room) s m #[(.ref a1), (.ref a2), (.long q3), (.long q4), (.long q5), (.long q6), (.long q7), (.long q8), (.long q9), (.long q10), (.long q11), (.long q12), (.long q13), (.long q14), (.long q15), (.long q16)] below meth c s₁ [] 0 0 := Stand.of_body Bd
  have e0 : s₁.heap = h0 := by rw [← hh, Bd.state]; rfl
  have N0 := Fr.nil n0
  have pre0 : ∀ t, Steps p.tables e below (s₁.setTop (mkF m 0 #[.val (.ref a1), .val (.ref a2), .val (.long q3), .second, .val (.long q4), .second, .val (.long q5), .second, .val (.long q6), .second, .val (.long q7), .second, .val (.long q8), .second, .val (.long q9), .second, .val (.long q10), .second, .val (.long q11), .second, .val (.long q12), .second, .val (.long q13), .second, .val (.long q14), .second, .val (.long q15), .second, .val (.long q16), .second] [])) t → Steps p.tables e below (s₁.setTop (entryFrame m #[(.ref a1), (.ref a2), (.long q3), (.long q4), (.long q5), (.long q6), (.long q7), (.long q8), (.long q9), (.long q10), (.long q11), (.long q12), (.long q13), (.long q14), (.long q15), (.long q16)] 30)) t := fun t k => castTop (ef_ini m a1 a2 q3 q4 q5 q6 q7 q8 q9 q10 q11 q12 q13 q14 q15 q16) k
  -- pc 1: Record.<init> by rmrec
  obtain ⟨_, _, ⟨T1, L1, k1, n1⟩, -, X1, ⟨Lc1, hQ1, l1, y1, z1⟩, st1⟩ := X0.specialBack hx (y := (⟨"java/lang/Record", "<init>", "()V"⟩ : MethodName)) rfl hown (mvT hZ (hw _ (List.mem_of_getElem? (i := 37) rfl))) (mvT hZ (hw _ (List.mem_of_getElem? (i := 38) rfl))) (mvT hZ (hw _ (List.mem_of_getElem? (i := 41) rfl))) (by decide) (backOf (W := 0) (rmrec l Z a0 hw [] a1 h0 n0 Z0 ) hZ (hw _ (List.mem_of_getElem? (i := 41) rfl)) (hw _ (List.mem_of_getElem? (i := 40) rfl)) (by decide) (by decide)) (g := (mkF m 1 #[.val (.ref a1), .val (.ref a2), .val (.long q3), .second, .val (.long q4), .second, .val (.long q5), .second, .val (.long q6), .second, .val (.long q7), .second, .val (.long q8), .second, .val (.long q9), .second, .val (.long q10), .second, .val (.long q11), .second, .val (.long q12), .second, .val (.long q13), .second, .val (.long q14), .second, .val (.long q15), .second, .val (.long q16), .second] [(.ref a1)])) rfl (by rw [hml]; rfl) (Steps.refl _) (a := a1) (argsL := []) (rest := []) (lenOf pd_7 rfl) rfl (by show 2 * 0 + _ ≤ _; exact Nat.le_of_eq rfl) (hb hby d7_1) (fun _ _ => ⟨rfl, e0, (by decide : 0 + 0 ≤ _), (by decide : 0 + 0 ≤ _)⟩)
  dsimp only [Pt.U, Pt.locs, Pt.cells, Pt.slots] at X1 l1 y1 z1 st1 hQ1
  subst l1 y1 z1
  obtain ⟨rfl, N1q, e1⟩ := hQ1
  have N2 := Fr.app N0 N1q
  obtain ⟨T3, h3, X3, e3, W3, st3⟩ := putF X1 hx hZ hown (host := "") (Or.inl (hw _ (List.mem_of_getElem? (i := 43) rfl))) Via.refl e1 F_pool_a1 E_a1 (Or.inr ⟨(hw _ (List.mem_of_getElem? (i := 44) rfl)), rfl, hnm⟩) (hw _ (List.mem_of_getElem? (i := 3) rfl)) (ty := (.object "java/lang/String")) (by decide) rfl rfl (g := (mkF m 6 #[.val (.ref a1), .val (.ref a2), .val (.long q3), .second, .val (.long q4), .second, .val (.long q5), .second, .val (.long q6), .second, .val (.long q7), .second, .val (.long q8), .second, .val (.long q9), .second, .val (.long q10), .second, .val (.long q11), .second, .val (.long q12), .second, .val (.long q13), .second, .val (.long q14), .second, .val (.long q15), .second, .val (.long q16), .second] [(.ref a2), (.ref a1)])) rfl rfl (hb hby d7_6)
  have f4 := E_a1.wr W3
  have f5 := F_pool_a1.same W3
  have f6 := F_capacity_a1.other W3 (Or.inr (slot_ne (Or.inr (hw _ (List.mem_of_getElem? (i := 46) rfl))) (Or.inr (hw _ (List.mem_of_getElem? (i := 44) rfl))) (by decide) (t := .long) (t' := (.object "java/lang/String")) (by decide) (by decide)))
  have f7 := F_ceiling_a1.other W3 (Or.inr (slot_ne (Or.inr (hw _ (List.mem_of_getElem? (i := 48) rfl))) (Or.inr (hw _ (List.mem_of_getElem? (i := 44) rfl))) (by decide) (t := .long) (t' := (.object "java/lang/String")) (by decide) (by decide)))
  have f8 := F_issued_a1.other W3 (Or.inr (slot_ne (Or.inr (hw _ (List.mem_of_getElem? (i := 50) rfl))) (Or.inr (hw _ (List.mem_of_getElem? (i := 44) rfl))) (by decide) (t := .long) (t' := (.object "java/lang/String")) (by decide) (by decide)))
  have f9 := F_remaining_a1.other W3 (Or.inr (slot_ne (Or.inr (hw _ (List.mem_of_getElem? (i := 52) rfl))) (Or.inr (hw _ (List.mem_of_getElem? (i := 44) rfl))) (by decide) (t := .long) (t' := (.object "java/lang/String")) (by decide) (by decide)))
  have f10 := F_grants_a1.other W3 (Or.inr (slot_ne (Or.inr (hw _ (List.mem_of_getElem? (i := 54) rfl))) (Or.inr (hw _ (List.mem_of_getElem? (i := 44) rfl))) (by decide) (t := .long) (t' := (.object "java/lang/String")) (by decide) (by decide)))
  have f11 := F_returned_a1.other W3 (Or.inr (slot_ne (Or.inr (hw _ (List.mem_of_getElem? (i := 56) rfl))) (Or.inr (hw _ (List.mem_of_getElem? (i := 44) rfl))) (by decide) (t := .long) (t' := (.object "java/lang/String")) (by decide) (by decide)))
  have f12 := F_holders_a1.other W3 (Or.inr (slot_ne (Or.inr (hw _ (List.mem_of_getElem? (i := 58) rfl))) (Or.inr (hw _ (List.mem_of_getElem? (i := 44) rfl))) (by decide) (t := .long) (t' := (.object "java/lang/String")) (by decide) (by decide)))
  have f13 := F_maxPerHolder_a1.other W3 (Or.inr (slot_ne (Or.inr (hw _ (List.mem_of_getElem? (i := 60) rfl))) (Or.inr (hw _ (List.mem_of_getElem? (i := 44) rfl))) (by decide) (t := .long) (t' := (.object "java/lang/String")) (by decide) (by decide)))
  have f14 := F_overCapacity_a1.other W3 (Or.inr (slot_ne (Or.inr (hw _ (List.mem_of_getElem? (i := 62) rfl))) (Or.inr (hw _ (List.mem_of_getElem? (i := 44) rfl))) (by decide) (t := .long) (t' := (.object "java/lang/String")) (by decide) (by decide)))
  have f15 := F_overCeiling_a1.other W3 (Or.inr (slot_ne (Or.inr (hw _ (List.mem_of_getElem? (i := 64) rfl))) (Or.inr (hw _ (List.mem_of_getElem? (i := 44) rfl))) (by decide) (t := .long) (t' := (.object "java/lang/String")) (by decide) (by decide)))
  have f16 := F_sequenceFirst_a1.other W3 (Or.inr (slot_ne (Or.inr (hw _ (List.mem_of_getElem? (i := 66) rfl))) (Or.inr (hw _ (List.mem_of_getElem? (i := 44) rfl))) (by decide) (t := .long) (t' := (.object "java/lang/String")) (by decide) (by decide)))
  have f17 := F_sequenceLast_a1.other W3 (Or.inr (slot_ne (Or.inr (hw _ (List.mem_of_getElem? (i := 68) rfl))) (Or.inr (hw _ (List.mem_of_getElem? (i := 44) rfl))) (by decide) (t := .long) (t' := (.object "java/lang/String")) (by decide) (by decide)))
  have f18 := F_sequenceMissing_a1.other W3 (Or.inr (slot_ne (Or.inr (hw _ (List.mem_of_getElem? (i := 70) rfl))) (Or.inr (hw _ (List.mem_of_getElem? (i := 44) rfl))) (by decide) (t := .long) (t' := (.object "java/lang/String")) (by decide) (by decide)))
  have f19 := F_sequenceRepeated_a1.other W3 (Or.inr (slot_ne (Or.inr (hw _ (List.mem_of_getElem? (i := 72) rfl))) (Or.inr (hw _ (List.mem_of_getElem? (i := 44) rfl))) (by decide) (t := .long) (t' := (.object "java/lang/String")) (by decide) (by decide)))
  have K20 := (Keep.refl h0 [a1]).wr W3 (Or.inl (List.mem_of_getElem? (i := 0) rfl))
  have zs21 : n0 ≤ h3.size := Nat.le_trans Z0 (Keep.of_wr W3).1
  have N22 := Fr.snoc X3 N2 g_a1
  obtain ⟨T23, h23, X23, e23, W23, st23⟩ := putF X3 hx hZ hown (host := "") (Or.inl (hw _ (List.mem_of_getElem? (i := 45) rfl))) Via.refl e3 f6 f4 (Or.inr ⟨(hw _ (List.mem_of_getElem? (i := 46) rfl)), rfl, hnm⟩) (hw _ (List.mem_of_getElem? (i := 3) rfl)) (ty := .long) (by decide) rfl rfl (g := (mkF m 11 #[.val (.ref a1), .val (.ref a2), .val (.long q3), .second, .val (.long q4), .second, .val (.long q5), .second, .val (.long q6), .second, .val (.long q7), .second, .val (.long q8), .second, .val (.long q9), .second, .val (.long q10), .second, .val (.long q11), .second, .val (.long q12), .second, .val (.long q13), .second, .val (.long q14), .second, .val (.long q15), .second, .val (.long q16), .second] [(.long q3), (.ref a1)])) rfl rfl (hb hby d7_11)
  have f24 := f4.wr W23
  have f25 := f5.other W23 (Or.inr (slot_ne (Or.inr (hw _ (List.mem_of_getElem? (i := 44) rfl))) (Or.inr (hw _ (List.mem_of_getElem? (i := 46) rfl))) (by decide) (t := (.object "java/lang/String")) (t' := .long) (by decide) (by decide)))
  have f26 := f6.same W23
  have f27 := f7.other W23 (Or.inr (slot_ne (Or.inr (hw _ (List.mem_of_getElem? (i := 48) rfl))) (Or.inr (hw _ (List.mem_of_getElem? (i := 46) rfl))) (by decide) (t := .long) (t' := .long) (by decide) (by decide)))
  have f28 := f8.other W23 (Or.inr (slot_ne (Or.inr (hw _ (List.mem_of_getElem? (i := 50) rfl))) (Or.inr (hw _ (List.mem_of_getElem? (i := 46) rfl))) (by decide) (t := .long) (t' := .long) (by decide) (by decide)))
  have f29 := f9.other W23 (Or.inr (slot_ne (Or.inr (hw _ (List.mem_of_getElem? (i := 52) rfl))) (Or.inr (hw _ (List.mem_of_getElem? (i := 46) rfl))) (by decide) (t := .long) (t' := .long) (by decide) (by decide)))
  have f30 := f10.other W23 (Or.inr (slot_ne (Or.inr (hw _ (List.mem_of_getElem? (i := 54) rfl))) (Or.inr (hw _ (List.mem_of_getElem? (i := 46) rfl))) (by decide) (t := .long) (t' := .long) (by decide) (by decide)))
  have f31 := f11.other W23 (Or.inr (slot_ne (Or.inr (hw _ (List.mem_of_getElem? (i := 56) rfl))) (Or.inr (hw _ (List.mem_of_getElem? (i := 46) rfl))) (by decide) (t := .long) (t' := .long) (by decide) (by decide)))
  have f32 := f12.other W23 (Or.inr (slot_ne (Or.inr (hw _ (List.mem_of_getElem? (i := 58) rfl))) (Or.inr (hw _ (List.mem_of_getElem? (i := 46) rfl))) (by decide) (t := .long) (t' := .long) (by decide) (by decide)))
  have f33 := f13.other W23 (Or.inr (slot_ne (Or.inr (hw _ (List.mem_of_getElem? (i := 60) rfl))) (Or.inr (hw _ (List.mem_of_getElem? (i := 46) rfl))) (by decide) (t := .long) (t' := .long) (by decide) (by decide)))
  have f34 := f14.other W23 (Or.inr (slot_ne (Or.inr (hw _ (List.mem_of_getElem? (i := 62) rfl))) (Or.inr (hw _ (List.mem_of_getElem? (i := 46) rfl))) (by decide) (t := .long) (t' := .long) (by decide) (by decide)))
  have f35 := f15.other W23 (Or.inr (slot_ne (Or.inr (hw _ (List.mem_of_getElem? (i := 64) rfl))) (Or.inr (hw _ (List.mem_of_getElem? (i := 46) rfl))) (by decide) (t := .long) (t' := .long) (by decide) (by decide)))
  have f36 := f16.other W23 (Or.inr (slot_ne (Or.inr (hw _ (List.mem_of_getElem? (i := 66) rfl))) (Or.inr (hw _ (List.mem_of_getElem? (i := 46) rfl))) (by decide) (t := .long) (t' := .long) (by decide) (by decide)))
  have f37 := f17.other W23 (Or.inr (slot_ne (Or.inr (hw _ (List.mem_of_getElem? (i := 68) rfl))) (Or.inr (hw _ (List.mem_of_getElem? (i := 46) rfl))) (by decide) (t := .long) (t' := .long) (by decide) (by decide)))
  have f38 := f18.other W23 (Or.inr (slot_ne (Or.inr (hw _ (List.mem_of_getElem? (i := 70) rfl))) (Or.inr (hw _ (List.mem_of_getElem? (i := 46) rfl))) (by decide) (t := .long) (t' := .long) (by decide) (by decide)))
  have f39 := f19.other W23 (Or.inr (slot_ne (Or.inr (hw _ (List.mem_of_getElem? (i := 72) rfl))) (Or.inr (hw _ (List.mem_of_getElem? (i := 46) rfl))) (by decide) (t := .long) (t' := .long) (by decide) (by decide)))
  have K40 := K20.wr W23 (Or.inl (List.mem_of_getElem? (i := 0) rfl))
  have zs41 : n0 ≤ h23.size := Nat.le_trans zs21 (Keep.of_wr W23).1
  have N42 := Fr.snoc X23 N22 g_a1
  obtain ⟨T43, h43, X43, e43, W43, st43⟩ := putF X23 hx hZ hown (host := "") (Or.inl (hw _ (List.mem_of_getElem? (i := 47) rfl))) Via.refl e23 f27 f24 (Or.inr ⟨(hw _ (List.mem_of_getElem? (i := 48) rfl)), rfl, hnm⟩) (hw _ (List.mem_of_getElem? (i := 3) rfl)) (ty := .long) (by decide) rfl rfl (g := (mkF m 17 #[.val (.ref a1), .val (.ref a2), .val (.long q3), .second, .val (.long q4), .second, .val (.long q5), .second, .val (.long q6), .second, .val (.long q7), .second, .val (.long q8), .second, .val (.long q9), .second, .val (.long q10), .second, .val (.long q11), .second, .val (.long q12), .second, .val (.long q13), .second, .val (.long q14), .second, .val (.long q15), .second, .val (.long q16), .second] [(.long q4), (.ref a1)])) rfl rfl (hb hby d7_17)
  have f44 := f24.wr W43
  have f45 := f25.other W43 (Or.inr (slot_ne (Or.inr (hw _ (List.mem_of_getElem? (i := 44) rfl))) (Or.inr (hw _ (List.mem_of_getElem? (i := 48) rfl))) (by decide) (t := (.object "java/lang/String")) (t' := .long) (by decide) (by decide)))
  have f46 := f26.other W43 (Or.inr (slot_ne (Or.inr (hw _ (List.mem_of_getElem? (i := 46) rfl))) (Or.inr (hw _ (List.mem_of_getElem? (i := 48) rfl))) (by decide) (t := .long) (t' := .long) (by decide) (by decide)))
  have f47 := f27.same W43
  have f48 := f28.other W43 (Or.inr (slot_ne (Or.inr (hw _ (List.mem_of_getElem? (i := 50) rfl))) (Or.inr (hw _ (List.mem_of_getElem? (i := 48) rfl))) (by decide) (t := .long) (t' := .long) (by decide) (by decide)))
  have f49 := f29.other W43 (Or.inr (slot_ne (Or.inr (hw _ (List.mem_of_getElem? (i := 52) rfl))) (Or.inr (hw _ (List.mem_of_getElem? (i := 48) rfl))) (by decide) (t := .long) (t' := .long) (by decide) (by decide)))
  have f50 := f30.other W43 (Or.inr (slot_ne (Or.inr (hw _ (List.mem_of_getElem? (i := 54) rfl))) (Or.inr (hw _ (List.mem_of_getElem? (i := 48) rfl))) (by decide) (t := .long) (t' := .long) (by decide) (by decide)))
  have f51 := f31.other W43 (Or.inr (slot_ne (Or.inr (hw _ (List.mem_of_getElem? (i := 56) rfl))) (Or.inr (hw _ (List.mem_of_getElem? (i := 48) rfl))) (by decide) (t := .long) (t' := .long) (by decide) (by decide)))
  have f52 := f32.other W43 (Or.inr (slot_ne (Or.inr (hw _ (List.mem_of_getElem? (i := 58) rfl))) (Or.inr (hw _ (List.mem_of_getElem? (i := 48) rfl))) (by decide) (t := .long) (t' := .long) (by decide) (by decide)))
  have f53 := f33.other W43 (Or.inr (slot_ne (Or.inr (hw _ (List.mem_of_getElem? (i := 60) rfl))) (Or.inr (hw _ (List.mem_of_getElem? (i := 48) rfl))) (by decide) (t := .long) (t' := .long) (by decide) (by decide)))
  have f54 := f34.other W43 (Or.inr (slot_ne (Or.inr (hw _ (List.mem_of_getElem? (i := 62) rfl))) (Or.inr (hw _ (List.mem_of_getElem? (i := 48) rfl))) (by decide) (t := .long) (t' := .long) (by decide) (by decide)))
  have f55 := f35.other W43 (Or.inr (slot_ne (Or.inr (hw _ (List.mem_of_getElem? (i := 64) rfl))) (Or.inr (hw _ (List.mem_of_getElem? (i := 48) rfl))) (by decide) (t := .long) (t' := .long) (by decide) (by decide)))
  have f56 := f36.other W43 (Or.inr (slot_ne (Or.inr (hw _ (List.mem_of_getElem? (i := 66) rfl))) (Or.inr (hw _ (List.mem_of_getElem? (i := 48) rfl))) (by decide) (t := .long) (t' := .long) (by decide) (by decide)))
  have f57 := f37.other W43 (Or.inr (slot_ne (Or.inr (hw _ (List.mem_of_getElem? (i := 68) rfl))) (Or.inr (hw _ (List.mem_of_getElem? (i := 48) rfl))) (by decide) (t := .long) (t' := .long) (by decide) (by decide)))
  have f58 := f38.other W43 (Or.inr (slot_ne (Or.inr (hw _ (List.mem_of_getElem? (i := 70) rfl))) (Or.inr (hw _ (List.mem_of_getElem? (i := 48) rfl))) (by decide) (t := .long) (t' := .long) (by decide) (by decide)))
  have f59 := f39.other W43 (Or.inr (slot_ne (Or.inr (hw _ (List.mem_of_getElem? (i := 72) rfl))) (Or.inr (hw _ (List.mem_of_getElem? (i := 48) rfl))) (by decide) (t := .long) (t' := .long) (by decide) (by decide)))
  have K60 := K40.wr W43 (Or.inl (List.mem_of_getElem? (i := 0) rfl))
  have zs61 : n0 ≤ h43.size := Nat.le_trans zs41 (Keep.of_wr W43).1
  have N62 := Fr.snoc X43 N42 g_a1
  obtain ⟨T63, h63, X63, e63, W63, st63⟩ := putF X43 hx hZ hown (host := "") (Or.inl (hw _ (List.mem_of_getElem? (i := 49) rfl))) Via.refl e43 f48 f44 (Or.inr ⟨(hw _ (List.mem_of_getElem? (i := 50) rfl)), rfl, hnm⟩) (hw _ (List.mem_of_getElem? (i := 3) rfl)) (ty := .long) (by decide) rfl rfl (g := (mkF m 23 #[.val (.ref a1), .val (.ref a2), .val (.long q3), .second, .val (.long q4), .second, .val (.long q5), .second, .val (.long q6), .second, .val (.long q7), .second, .val (.long q8), .second, .val (.long q9), .second, .val (.long q10), .second, .val (.long q11), .second, .val (.long q12), .second, .val (.long q13), .second, .val (.long q14), .second, .val (.long q15), .second, .val (.long q16), .second] [(.long q5), (.ref a1)])) rfl rfl (hb hby d7_23)
  have f64 := f44.wr W63
  have f65 := f45.other W63 (Or.inr (slot_ne (Or.inr (hw _ (List.mem_of_getElem? (i := 44) rfl))) (Or.inr (hw _ (List.mem_of_getElem? (i := 50) rfl))) (by decide) (t := (.object "java/lang/String")) (t' := .long) (by decide) (by decide)))
  have f66 := f46.other W63 (Or.inr (slot_ne (Or.inr (hw _ (List.mem_of_getElem? (i := 46) rfl))) (Or.inr (hw _ (List.mem_of_getElem? (i := 50) rfl))) (by decide) (t := .long) (t' := .long) (by decide) (by decide)))
  have f67 := f47.other W63 (Or.inr (slot_ne (Or.inr (hw _ (List.mem_of_getElem? (i := 48) rfl))) (Or.inr (hw _ (List.mem_of_getElem? (i := 50) rfl))) (by decide) (t := .long) (t' := .long) (by decide) (by decide)))
  have f68 := f48.same W63
  have f69 := f49.other W63 (Or.inr (slot_ne (Or.inr (hw _ (List.mem_of_getElem? (i := 52) rfl))) (Or.inr (hw _ (List.mem_of_getElem? (i := 50) rfl))) (by decide) (t := .long) (t' := .long) (by decide) (by decide)))
  have f70 := f50.other W63 (Or.inr (slot_ne (Or.inr (hw _ (List.mem_of_getElem? (i := 54) rfl))) (Or.inr (hw _ (List.mem_of_getElem? (i := 50) rfl))) (by decide) (t := .long) (t' := .long) (by decide) (by decide)))
  have f71 := f51.other W63 (Or.inr (slot_ne (Or.inr (hw _ (List.mem_of_getElem? (i := 56) rfl))) (Or.inr (hw _ (List.mem_of_getElem? (i := 50) rfl))) (by decide) (t := .long) (t' := .long) (by decide) (by decide)))
  have f72 := f52.other W63 (Or.inr (slot_ne (Or.inr (hw _ (List.mem_of_getElem? (i := 58) rfl))) (Or.inr (hw _ (List.mem_of_getElem? (i := 50) rfl))) (by decide) (t := .long) (t' := .long) (by decide) (by decide)))
  have f73 := f53.other W63 (Or.inr (slot_ne (Or.inr (hw _ (List.mem_of_getElem? (i := 60) rfl))) (Or.inr (hw _ (List.mem_of_getElem? (i := 50) rfl))) (by decide) (t := .long) (t' := .long) (by decide) (by decide)))
  have f74 := f54.other W63 (Or.inr (slot_ne (Or.inr (hw _ (List.mem_of_getElem? (i := 62) rfl))) (Or.inr (hw _ (List.mem_of_getElem? (i := 50) rfl))) (by decide) (t := .long) (t' := .long) (by decide) (by decide)))
  have f75 := f55.other W63 (Or.inr (slot_ne (Or.inr (hw _ (List.mem_of_getElem? (i := 64) rfl))) (Or.inr (hw _ (List.mem_of_getElem? (i := 50) rfl))) (by decide) (t := .long) (t' := .long) (by decide) (by decide)))
  have f76 := f56.other W63 (Or.inr (slot_ne (Or.inr (hw _ (List.mem_of_getElem? (i := 66) rfl))) (Or.inr (hw _ (List.mem_of_getElem? (i := 50) rfl))) (by decide) (t := .long) (t' := .long) (by decide) (by decide)))
  have f77 := f57.other W63 (Or.inr (slot_ne (Or.inr (hw _ (List.mem_of_getElem? (i := 68) rfl))) (Or.inr (hw _ (List.mem_of_getElem? (i := 50) rfl))) (by decide) (t := .long) (t' := .long) (by decide) (by decide)))
  have f78 := f58.other W63 (Or.inr (slot_ne (Or.inr (hw _ (List.mem_of_getElem? (i := 70) rfl))) (Or.inr (hw _ (List.mem_of_getElem? (i := 50) rfl))) (by decide) (t := .long) (t' := .long) (by decide) (by decide)))
  have f79 := f59.other W63 (Or.inr (slot_ne (Or.inr (hw _ (List.mem_of_getElem? (i := 72) rfl))) (Or.inr (hw _ (List.mem_of_getElem? (i := 50) rfl))) (by decide) (t := .long) (t' := .long) (by decide) (by decide)))
  have K80 := K60.wr W63 (Or.inl (List.mem_of_getElem? (i := 0) rfl))
  have zs81 : n0 ≤ h63.size := Nat.le_trans zs61 (Keep.of_wr W63).1
  have N82 := Fr.snoc X63 N62 g_a1
  obtain ⟨T83, h83, X83, e83, W83, st83⟩ := putF X63 hx hZ hown (host := "") (Or.inl (hw _ (List.mem_of_getElem? (i := 51) rfl))) Via.refl e63 f69 f64 (Or.inr ⟨(hw _ (List.mem_of_getElem? (i := 52) rfl)), rfl, hnm⟩) (hw _ (List.mem_of_getElem? (i := 3) rfl)) (ty := .long) (by decide) rfl rfl (g := (mkF m 29 #[.val (.ref a1), .val (.ref a2), .val (.long q3), .second, .val (.long q4), .second, .val (.long q5), .second, .val (.long q6), .second, .val (.long q7), .second, .val (.long q8), .second, .val (.long q9), .second, .val (.long q10), .second, .val (.long q11), .second, .val (.long q12), .second, .val (.long q13), .second, .val (.long q14), .second, .val (.long q15), .second, .val (.long q16), .second] [(.long q6), (.ref a1)])) rfl rfl (hb hby d7_29)
  have f84 := f64.wr W83
  have f85 := f65.other W83 (Or.inr (slot_ne (Or.inr (hw _ (List.mem_of_getElem? (i := 44) rfl))) (Or.inr (hw _ (List.mem_of_getElem? (i := 52) rfl))) (by decide) (t := (.object "java/lang/String")) (t' := .long) (by decide) (by decide)))
  have f86 := f66.other W83 (Or.inr (slot_ne (Or.inr (hw _ (List.mem_of_getElem? (i := 46) rfl))) (Or.inr (hw _ (List.mem_of_getElem? (i := 52) rfl))) (by decide) (t := .long) (t' := .long) (by decide) (by decide)))
  have f87 := f67.other W83 (Or.inr (slot_ne (Or.inr (hw _ (List.mem_of_getElem? (i := 48) rfl))) (Or.inr (hw _ (List.mem_of_getElem? (i := 52) rfl))) (by decide) (t := .long) (t' := .long) (by decide) (by decide)))
  have f88 := f68.other W83 (Or.inr (slot_ne (Or.inr (hw _ (List.mem_of_getElem? (i := 50) rfl))) (Or.inr (hw _ (List.mem_of_getElem? (i := 52) rfl))) (by decide) (t := .long) (t' := .long) (by decide) (by decide)))
  have f89 := f69.same W83
  have f90 := f70.other W83 (Or.inr (slot_ne (Or.inr (hw _ (List.mem_of_getElem? (i := 54) rfl))) (Or.inr (hw _ (List.mem_of_getElem? (i := 52) rfl))) (by decide) (t := .long) (t' := .long) (by decide) (by decide)))
  have f91 := f71.other W83 (Or.inr (slot_ne (Or.inr (hw _ (List.mem_of_getElem? (i := 56) rfl))) (Or.inr (hw _ (List.mem_of_getElem? (i := 52) rfl))) (by decide) (t := .long) (t' := .long) (by decide) (by decide)))
  have f92 := f72.other W83 (Or.inr (slot_ne (Or.inr (hw _ (List.mem_of_getElem? (i := 58) rfl))) (Or.inr (hw _ (List.mem_of_getElem? (i := 52) rfl))) (by decide) (t := .long) (t' := .long) (by decide) (by decide)))
  have f93 := f73.other W83 (Or.inr (slot_ne (Or.inr (hw _ (List.mem_of_getElem? (i := 60) rfl))) (Or.inr (hw _ (List.mem_of_getElem? (i := 52) rfl))) (by decide) (t := .long) (t' := .long) (by decide) (by decide)))
  have f94 := f74.other W83 (Or.inr (slot_ne (Or.inr (hw _ (List.mem_of_getElem? (i := 62) rfl))) (Or.inr (hw _ (List.mem_of_getElem? (i := 52) rfl))) (by decide) (t := .long) (t' := .long) (by decide) (by decide)))
  have f95 := f75.other W83 (Or.inr (slot_ne (Or.inr (hw _ (List.mem_of_getElem? (i := 64) rfl))) (Or.inr (hw _ (List.mem_of_getElem? (i := 52) rfl))) (by decide) (t := .long) (t' := .long) (by decide) (by decide)))
  have f96 := f76.other W83 (Or.inr (slot_ne (Or.inr (hw _ (List.mem_of_getElem? (i := 66) rfl))) (Or.inr (hw _ (List.mem_of_getElem? (i := 52) rfl))) (by decide) (t := .long) (t' := .long) (by decide) (by decide)))
  have f97 := f77.other W83 (Or.inr (slot_ne (Or.inr (hw _ (List.mem_of_getElem? (i := 68) rfl))) (Or.inr (hw _ (List.mem_of_getElem? (i := 52) rfl))) (by decide) (t := .long) (t' := .long) (by decide) (by decide)))
  have f98 := f78.other W83 (Or.inr (slot_ne (Or.inr (hw _ (List.mem_of_getElem? (i := 70) rfl))) (Or.inr (hw _ (List.mem_of_getElem? (i := 52) rfl))) (by decide) (t := .long) (t' := .long) (by decide) (by decide)))
  have f99 := f79.other W83 (Or.inr (slot_ne (Or.inr (hw _ (List.mem_of_getElem? (i := 72) rfl))) (Or.inr (hw _ (List.mem_of_getElem? (i := 52) rfl))) (by decide) (t := .long) (t' := .long) (by decide) (by decide)))
  have K100 := K80.wr W83 (Or.inl (List.mem_of_getElem? (i := 0) rfl))
  have zs101 : n0 ≤ h83.size := Nat.le_trans zs81 (Keep.of_wr W83).1
  have N102 := Fr.snoc X83 N82 g_a1
  obtain ⟨T103, h103, X103, e103, W103, st103⟩ := putF X83 hx hZ hown (host := "") (Or.inl (hw _ (List.mem_of_getElem? (i := 53) rfl))) Via.refl e83 f90 f84 (Or.inr ⟨(hw _ (List.mem_of_getElem? (i := 54) rfl)), rfl, hnm⟩) (hw _ (List.mem_of_getElem? (i := 3) rfl)) (ty := .long) (by decide) rfl rfl (g := (mkF m 35 #[.val (.ref a1), .val (.ref a2), .val (.long q3), .second, .val (.long q4), .second, .val (.long q5), .second, .val (.long q6), .second, .val (.long q7), .second, .val (.long q8), .second, .val (.long q9), .second, .val (.long q10), .second, .val (.long q11), .second, .val (.long q12), .second, .val (.long q13), .second, .val (.long q14), .second, .val (.long q15), .second, .val (.long q16), .second] [(.long q7), (.ref a1)])) rfl rfl (hb hby d7_35)
  have f104 := f84.wr W103
  have f105 := f85.other W103 (Or.inr (slot_ne (Or.inr (hw _ (List.mem_of_getElem? (i := 44) rfl))) (Or.inr (hw _ (List.mem_of_getElem? (i := 54) rfl))) (by decide) (t := (.object "java/lang/String")) (t' := .long) (by decide) (by decide)))
  have f106 := f86.other W103 (Or.inr (slot_ne (Or.inr (hw _ (List.mem_of_getElem? (i := 46) rfl))) (Or.inr (hw _ (List.mem_of_getElem? (i := 54) rfl))) (by decide) (t := .long) (t' := .long) (by decide) (by decide)))
  have f107 := f87.other W103 (Or.inr (slot_ne (Or.inr (hw _ (List.mem_of_getElem? (i := 48) rfl))) (Or.inr (hw _ (List.mem_of_getElem? (i := 54) rfl))) (by decide) (t := .long) (t' := .long) (by decide) (by decide)))
  have f108 := f88.other W103 (Or.inr (slot_ne (Or.inr (hw _ (List.mem_of_getElem? (i := 50) rfl))) (Or.inr (hw _ (List.mem_of_getElem? (i := 54) rfl))) (by decide) (t := .long) (t' := .long) (by decide) (by decide)))
  have f109 := f89.other W103 (Or.inr (slot_ne (Or.inr (hw _ (List.mem_of_getElem? (i := 52) rfl))) (Or.inr (hw _ (List.mem_of_getElem? (i := 54) rfl))) (by decide) (t := .long) (t' := .long) (by decide) (by decide)))
  have f110 := f90.same W103
  have f111 := f91.other W103 (Or.inr (slot_ne (Or.inr (hw _ (List.mem_of_getElem? (i := 56) rfl))) (Or.inr (hw _ (List.mem_of_getElem? (i := 54) rfl))) (by decide) (t := .long) (t' := .long) (by decide) (by decide)))
  have f112 := f92.other W103 (Or.inr (slot_ne (Or.inr (hw _ (List.mem_of_getElem? (i := 58) rfl))) (Or.inr (hw _ (List.mem_of_getElem? (i := 54) rfl))) (by decide) (t := .long) (t' := .long) (by decide) (by decide)))
  have f113 := f93.other W103 (Or.inr (slot_ne (Or.inr (hw _ (List.mem_of_getElem? (i := 60) rfl))) (Or.inr (hw _ (List.mem_of_getElem? (i := 54) rfl))) (by decide) (t := .long) (t' := .long) (by decide) (by decide)))
  have f114 := f94.other W103 (Or.inr (slot_ne (Or.inr (hw _ (List.mem_of_getElem? (i := 62) rfl))) (Or.inr (hw _ (List.mem_of_getElem? (i := 54) rfl))) (by decide) (t := .long) (t' := .long) (by decide) (by decide)))
  have f115 := f95.other W103 (Or.inr (slot_ne (Or.inr (hw _ (List.mem_of_getElem? (i := 64) rfl))) (Or.inr (hw _ (List.mem_of_getElem? (i := 54) rfl))) (by decide) (t := .long) (t' := .long) (by decide) (by decide)))
  have f116 := f96.other W103 (Or.inr (slot_ne (Or.inr (hw _ (List.mem_of_getElem? (i := 66) rfl))) (Or.inr (hw _ (List.mem_of_getElem? (i := 54) rfl))) (by decide) (t := .long) (t' := .long) (by decide) (by decide)))
  have f117 := f97.other W103 (Or.inr (slot_ne (Or.inr (hw _ (List.mem_of_getElem? (i := 68) rfl))) (Or.inr (hw _ (List.mem_of_getElem? (i := 54) rfl))) (by decide) (t := .long) (t' := .long) (by decide) (by decide)))
  have f118 := f98.other W103 (Or.inr (slot_ne (Or.inr (hw _ (List.mem_of_getElem? (i := 70) rfl))) (Or.inr (hw _ (List.mem_of_getElem? (i := 54) rfl))) (by decide) (t := .long) (t' := .long) (by decide) (by decide)))
  have f119 := f99.other W103 (Or.inr (slot_ne (Or.inr (hw _ (List.mem_of_getElem? (i := 72) rfl))) (Or.inr (hw _ (List.mem_of_getElem? (i := 54) rfl))) (by decide) (t := .long) (t' := .long) (by decide) (by decide)))
  have K120 := K100.wr W103 (Or.inl (List.mem_of_getElem? (i := 0) rfl))
  have zs121 : n0 ≤ h103.size := Nat.le_trans zs101 (Keep.of_wr W103).1
  have N122 := Fr.snoc X103 N102 g_a1
  obtain ⟨T123, h123, X123, e123, W123, st123⟩ := putF X103 hx hZ hown (host := "") (Or.inl (hw _ (List.mem_of_getElem? (i := 55) rfl))) Via.refl e103 f111 f104 (Or.inr ⟨(hw _ (List.mem_of_getElem? (i := 56) rfl)), rfl, hnm⟩) (hw _ (List.mem_of_getElem? (i := 3) rfl)) (ty := .long) (by decide) rfl rfl (g := (mkF m 41 #[.val (.ref a1), .val (.ref a2), .val (.long q3), .second, .val (.long q4), .second, .val (.long q5), .second, .val (.long q6), .second, .val (.long q7), .second, .val (.long q8), .second, .val (.long q9), .second, .val (.long q10), .second, .val (.long q11), .second, .val (.long q12), .second, .val (.long q13), .second, .val (.long q14), .second, .val (.long q15), .second, .val (.long q16), .second] [(.long q8), (.ref a1)])) rfl rfl (hb hby d7_41)
  have f124 := f104.wr W123
  have f125 := f105.other W123 (Or.inr (slot_ne (Or.inr (hw _ (List.mem_of_getElem? (i := 44) rfl))) (Or.inr (hw _ (List.mem_of_getElem? (i := 56) rfl))) (by decide) (t := (.object "java/lang/String")) (t' := .long) (by decide) (by decide)))
  have f126 := f106.other W123 (Or.inr (slot_ne (Or.inr (hw _ (List.mem_of_getElem? (i := 46) rfl))) (Or.inr (hw _ (List.mem_of_getElem? (i := 56) rfl))) (by decide) (t := .long) (t' := .long) (by decide) (by decide)))
  have f127 := f107.other W123 (Or.inr (slot_ne (Or.inr (hw _ (List.mem_of_getElem? (i := 48) rfl))) (Or.inr (hw _ (List.mem_of_getElem? (i := 56) rfl))) (by decide) (t := .long) (t' := .long) (by decide) (by decide)))
  have f128 := f108.other W123 (Or.inr (slot_ne (Or.inr (hw _ (List.mem_of_getElem? (i := 50) rfl))) (Or.inr (hw _ (List.mem_of_getElem? (i := 56) rfl))) (by decide) (t := .long) (t' := .long) (by decide) (by decide)))
  have f129 := f109.other W123 (Or.inr (slot_ne (Or.inr (hw _ (List.mem_of_getElem? (i := 52) rfl))) (Or.inr (hw _ (List.mem_of_getElem? (i := 56) rfl))) (by decide) (t := .long) (t' := .long) (by decide) (by decide)))
  have f130 := f110.other W123 (Or.inr (slot_ne (Or.inr (hw _ (List.mem_of_getElem? (i := 54) rfl))) (Or.inr (hw _ (List.mem_of_getElem? (i := 56) rfl))) (by decide) (t := .long) (t' := .long) (by decide) (by decide)))
  have f131 := f111.same W123
  have f132 := f112.other W123 (Or.inr (slot_ne (Or.inr (hw _ (List.mem_of_getElem? (i := 58) rfl))) (Or.inr (hw _ (List.mem_of_getElem? (i := 56) rfl))) (by decide) (t := .long) (t' := .long) (by decide) (by decide)))
  have f133 := f113.other W123 (Or.inr (slot_ne (Or.inr (hw _ (List.mem_of_getElem? (i := 60) rfl))) (Or.inr (hw _ (List.mem_of_getElem? (i := 56) rfl))) (by decide) (t := .long) (t' := .long) (by decide) (by decide)))
  have f134 := f114.other W123 (Or.inr (slot_ne (Or.inr (hw _ (List.mem_of_getElem? (i := 62) rfl))) (Or.inr (hw _ (List.mem_of_getElem? (i := 56) rfl))) (by decide) (t := .long) (t' := .long) (by decide) (by decide)))
  have f135 := f115.other W123 (Or.inr (slot_ne (Or.inr (hw _ (List.mem_of_getElem? (i := 64) rfl))) (Or.inr (hw _ (List.mem_of_getElem? (i := 56) rfl))) (by decide) (t := .long) (t' := .long) (by decide) (by decide)))
  have f136 := f116.other W123 (Or.inr (slot_ne (Or.inr (hw _ (List.mem_of_getElem? (i := 66) rfl))) (Or.inr (hw _ (List.mem_of_getElem? (i := 56) rfl))) (by decide) (t := .long) (t' := .long) (by decide) (by decide)))
  have f137 := f117.other W123 (Or.inr (slot_ne (Or.inr (hw _ (List.mem_of_getElem? (i := 68) rfl))) (Or.inr (hw _ (List.mem_of_getElem? (i := 56) rfl))) (by decide) (t := .long) (t' := .long) (by decide) (by decide)))
  have f138 := f118.other W123 (Or.inr (slot_ne (Or.inr (hw _ (List.mem_of_getElem? (i := 70) rfl))) (Or.inr (hw _ (List.mem_of_getElem? (i := 56) rfl))) (by decide) (t := .long) (t' := .long) (by decide) (by decide)))
  have f139 := f119.other W123 (Or.inr (slot_ne (Or.inr (hw _ (List.mem_of_getElem? (i := 72) rfl))) (Or.inr (hw _ (List.mem_of_getElem? (i := 56) rfl))) (by decide) (t := .long) (t' := .long) (by decide) (by decide)))
  have K140 := K120.wr W123 (Or.inl (List.mem_of_getElem? (i := 0) rfl))
  have zs141 : n0 ≤ h123.size := Nat.le_trans zs121 (Keep.of_wr W123).1
  have N142 := Fr.snoc X123 N122 g_a1
  obtain ⟨T143, h143, X143, e143, W143, st143⟩ := putF X123 hx hZ hown (host := "") (Or.inl (hw _ (List.mem_of_getElem? (i := 57) rfl))) Via.refl e123 f132 f124 (Or.inr ⟨(hw _ (List.mem_of_getElem? (i := 58) rfl)), rfl, hnm⟩) (hw _ (List.mem_of_getElem? (i := 3) rfl)) (ty := .long) (by decide) rfl rfl (g := (mkF m 47 #[.val (.ref a1), .val (.ref a2), .val (.long q3), .second, .val (.long q4), .second, .val (.long q5), .second, .val (.long q6), .second, .val (.long q7), .second, .val (.long q8), .second, .val (.long q9), .second, .val (.long q10), .second, .val (.long q11), .second, .val (.long q12), .second, .val (.long q13), .second, .val (.long q14), .second, .val (.long q15), .second, .val (.long q16), .second] [(.long q9), (.ref a1)])) rfl rfl (hb hby d7_47)
  have f144 := f124.wr W143
  have f145 := f125.other W143 (Or.inr (slot_ne (Or.inr (hw _ (List.mem_of_getElem? (i := 44) rfl))) (Or.inr (hw _ (List.mem_of_getElem? (i := 58) rfl))) (by decide) (t := (.object "java/lang/String")) (t' := .long) (by decide) (by decide)))
  have f146 := f126.other W143 (Or.inr (slot_ne (Or.inr (hw _ (List.mem_of_getElem? (i := 46) rfl))) (Or.inr (hw _ (List.mem_of_getElem? (i := 58) rfl))) (by decide) (t := .long) (t' := .long) (by decide) (by decide)))
  have f147 := f127.other W143 (Or.inr (slot_ne (Or.inr (hw _ (List.mem_of_getElem? (i := 48) rfl))) (Or.inr (hw _ (List.mem_of_getElem? (i := 58) rfl))) (by decide) (t := .long) (t' := .long) (by decide) (by decide)))
  have f148 := f128.other W143 (Or.inr (slot_ne (Or.inr (hw _ (List.mem_of_getElem? (i := 50) rfl))) (Or.inr (hw _ (List.mem_of_getElem? (i := 58) rfl))) (by decide) (t := .long) (t' := .long) (by decide) (by decide)))
  have f149 := f129.other W143 (Or.inr (slot_ne (Or.inr (hw _ (List.mem_of_getElem? (i := 52) rfl))) (Or.inr (hw _ (List.mem_of_getElem? (i := 58) rfl))) (by decide) (t := .long) (t' := .long) (by decide) (by decide)))
  have f150 := f130.other W143 (Or.inr (slot_ne (Or.inr (hw _ (List.mem_of_getElem? (i := 54) rfl))) (Or.inr (hw _ (List.mem_of_getElem? (i := 58) rfl))) (by decide) (t := .long) (t' := .long) (by decide) (by decide)))
  have f151 := f131.other W143 (Or.inr (slot_ne (Or.inr (hw _ (List.mem_of_getElem? (i := 56) rfl))) (Or.inr (hw _ (List.mem_of_getElem? (i := 58) rfl))) (by decide) (t := .long) (t' := .long) (by decide) (by decide)))
  have f152 := f132.same W143
  have f153 := f133.other W143 (Or.inr (slot_ne (Or.inr (hw _ (List.mem_of_getElem? (i := 60) rfl))) (Or.inr (hw _ (List.mem_of_getElem? (i := 58) rfl))) (by decide) (t := .long) (t' := .long) (by decide) (by decide)))
  have f154 := f134.other W143 (Or.inr (slot_ne (Or.inr (hw _ (List.mem_of_getElem? (i := 62) rfl))) (Or.inr (hw _ (List.mem_of_getElem? (i := 58) rfl))) (by decide) (t := .long) (t' := .long) (by decide) (by decide)))
  have f155 := f135.other W143 (Or.inr (slot_ne (Or.inr (hw _ (List.mem_of_getElem? (i := 64) rfl))) (Or.inr (hw _ (List.mem_of_getElem? (i := 58) rfl))) (by decide) (t := .long) (t' := .long) (by decide) (by decide)))
  have f156 := f136.other W143 (Or.inr (slot_ne (Or.inr (hw _ (List.mem_of_getElem? (i := 66) rfl))) (Or.inr (hw _ (List.mem_of_getElem? (i := 58) rfl))) (by decide) (t := .long) (t' := .long) (by decide) (by decide)))
  have f157 := f137.other W143 (Or.inr (slot_ne (Or.inr (hw _ (List.mem_of_getElem? (i := 68) rfl))) (Or.inr (hw _ (List.mem_of_getElem? (i := 58) rfl))) (by decide) (t := .long) (t' := .long) (by decide) (by decide)))
  have f158 := f138.other W143 (Or.inr (slot_ne (Or.inr (hw _ (List.mem_of_getElem? (i := 70) rfl))) (Or.inr (hw _ (List.mem_of_getElem? (i := 58) rfl))) (by decide) (t := .long) (t' := .long) (by decide) (by decide)))
  have f159 := f139.other W143 (Or.inr (slot_ne (Or.inr (hw _ (List.mem_of_getElem? (i := 72) rfl))) (Or.inr (hw _ (List.mem_of_getElem? (i := 58) rfl))) (by decide) (t := .long) (t' := .long) (by decide) (by decide)))
  have K160 := K140.wr W143 (Or.inl (List.mem_of_getElem? (i := 0) rfl))
  have zs161 : n0 ≤ h143.size := Nat.le_trans zs141 (Keep.of_wr W143).1
  have N162 := Fr.snoc X143 N142 g_a1
  obtain ⟨T163, h163, X163, e163, W163, st163⟩ := putF X143 hx hZ hown (host := "") (Or.inl (hw _ (List.mem_of_getElem? (i := 59) rfl))) Via.refl e143 f153 f144 (Or.inr ⟨(hw _ (List.mem_of_getElem? (i := 60) rfl)), rfl, hnm⟩) (hw _ (List.mem_of_getElem? (i := 3) rfl)) (ty := .long) (by decide) rfl rfl (g := (mkF m 53 #[.val (.ref a1), .val (.ref a2), .val (.long q3), .second, .val (.long q4), .second, .val (.long q5), .second, .val (.long q6), .second, .val (.long q7), .second, .val (.long q8), .second, .val (.long q9), .second, .val (.long q10), .second, .val (.long q11), .second, .val (.long q12), .second, .val (.long q13), .second, .val (.long q14), .second, .val (.long q15), .second, .val (.long q16), .second] [(.long q10), (.ref a1)])) rfl rfl (hb hby d7_53)
  have f164 := f144.wr W163
  have f165 := f145.other W163 (Or.inr (slot_ne (Or.inr (hw _ (List.mem_of_getElem? (i := 44) rfl))) (Or.inr (hw _ (List.mem_of_getElem? (i := 60) rfl))) (by decide) (t := (.object "java/lang/String")) (t' := .long) (by decide) (by decide)))
  have f166 := f146.other W163 (Or.inr (slot_ne (Or.inr (hw _ (List.mem_of_getElem? (i := 46) rfl))) (Or.inr (hw _ (List.mem_of_getElem? (i := 60) rfl))) (by decide) (t := .long) (t' := .long) (by decide) (by decide)))
  have f167 := f147.other W163 (Or.inr (slot_ne (Or.inr (hw _ (List.mem_of_getElem? (i := 48) rfl))) (Or.inr (hw _ (List.mem_of_getElem? (i := 60) rfl))) (by decide) (t := .long) (t' := .long) (by decide) (by decide)))
  have f168 := f148.other W163 (Or.inr (slot_ne (Or.inr (hw _ (List.mem_of_getElem? (i := 50) rfl))) (Or.inr (hw _ (List.mem_of_getElem? (i := 60) rfl))) (by decide) (t := .long) (t' := .long) (by decide) (by decide)))
  have f169 := f149.other W163 (Or.inr (slot_ne (Or.inr (hw _ (List.mem_of_getElem? (i := 52) rfl))) (Or.inr (hw _ (List.mem_of_getElem? (i := 60) rfl))) (by decide) (t := .long) (t' := .long) (by decide) (by decide)))
  have f170 := f150.other W163 (Or.inr (slot_ne (Or.inr (hw _ (List.mem_of_getElem? (i := 54) rfl))) (Or.inr (hw _ (List.mem_of_getElem? (i := 60) rfl))) (by decide) (t := .long) (t' := .long) (by decide) (by decide)))
  have f171 := f151.other W163 (Or.inr (slot_ne (Or.inr (hw _ (List.mem_of_getElem? (i := 56) rfl))) (Or.inr (hw _ (List.mem_of_getElem? (i := 60) rfl))) (by decide) (t := .long) (t' := .long) (by decide) (by decide)))
  have f172 := f152.other W163 (Or.inr (slot_ne (Or.inr (hw _ (List.mem_of_getElem? (i := 58) rfl))) (Or.inr (hw _ (List.mem_of_getElem? (i := 60) rfl))) (by decide) (t := .long) (t' := .long) (by decide) (by decide)))
  have f173 := f153.same W163
  have f174 := f154.other W163 (Or.inr (slot_ne (Or.inr (hw _ (List.mem_of_getElem? (i := 62) rfl))) (Or.inr (hw _ (List.mem_of_getElem? (i := 60) rfl))) (by decide) (t := .long) (t' := .long) (by decide) (by decide)))
  have f175 := f155.other W163 (Or.inr (slot_ne (Or.inr (hw _ (List.mem_of_getElem? (i := 64) rfl))) (Or.inr (hw _ (List.mem_of_getElem? (i := 60) rfl))) (by decide) (t := .long) (t' := .long) (by decide) (by decide)))
  have f176 := f156.other W163 (Or.inr (slot_ne (Or.inr (hw _ (List.mem_of_getElem? (i := 66) rfl))) (Or.inr (hw _ (List.mem_of_getElem? (i := 60) rfl))) (by decide) (t := .long) (t' := .long) (by decide) (by decide)))
  have f177 := f157.other W163 (Or.inr (slot_ne (Or.inr (hw _ (List.mem_of_getElem? (i := 68) rfl))) (Or.inr (hw _ (List.mem_of_getElem? (i := 60) rfl))) (by decide) (t := .long) (t' := .long) (by decide) (by decide)))
  have f178 := f158.other W163 (Or.inr (slot_ne (Or.inr (hw _ (List.mem_of_getElem? (i := 70) rfl))) (Or.inr (hw _ (List.mem_of_getElem? (i := 60) rfl))) (by decide) (t := .long) (t' := .long) (by decide) (by decide)))
  have f179 := f159.other W163 (Or.inr (slot_ne (Or.inr (hw _ (List.mem_of_getElem? (i := 72) rfl))) (Or.inr (hw _ (List.mem_of_getElem? (i := 60) rfl))) (by decide) (t := .long) (t' := .long) (by decide) (by decide)))
  have K180 := K160.wr W163 (Or.inl (List.mem_of_getElem? (i := 0) rfl))
  have zs181 : n0 ≤ h163.size := Nat.le_trans zs161 (Keep.of_wr W163).1
  have N182 := Fr.snoc X163 N162 g_a1
  obtain ⟨T183, h183, X183, e183, W183, st183⟩ := putF X163 hx hZ hown (host := "") (Or.inl (hw _ (List.mem_of_getElem? (i := 61) rfl))) Via.refl e163 f174 f164 (Or.inr ⟨(hw _ (List.mem_of_getElem? (i := 62) rfl)), rfl, hnm⟩) (hw _ (List.mem_of_getElem? (i := 3) rfl)) (ty := .long) (by decide) rfl rfl (g := (mkF m 59 #[.val (.ref a1), .val (.ref a2), .val (.long q3), .second, .val (.long q4), .second, .val (.long q5), .second, .val (.long q6), .second, .val (.long q7), .second, .val (.long q8), .second, .val (.long q9), .second, .val (.long q10), .second, .val (.long q11), .second, .val (.long q12), .second, .val (.long q13), .second, .val (.long q14), .second, .val (.long q15), .second, .val (.long q16), .second] [(.long q11), (.ref a1)])) rfl rfl (hb hby d7_59)
  have f184 := f164.wr W183
  have f185 := f165.other W183 (Or.inr (slot_ne (Or.inr (hw _ (List.mem_of_getElem? (i := 44) rfl))) (Or.inr (hw _ (List.mem_of_getElem? (i := 62) rfl))) (by decide) (t := (.object "java/lang/String")) (t' := .long) (by decide) (by decide)))
  have f186 := f166.other W183 (Or.inr (slot_ne (Or.inr (hw _ (List.mem_of_getElem? (i := 46) rfl))) (Or.inr (hw _ (List.mem_of_getElem? (i := 62) rfl))) (by decide) (t := .long) (t' := .long) (by decide) (by decide)))
  have f187 := f167.other W183 (Or.inr (slot_ne (Or.inr (hw _ (List.mem_of_getElem? (i := 48) rfl))) (Or.inr (hw _ (List.mem_of_getElem? (i := 62) rfl))) (by decide) (t := .long) (t' := .long) (by decide) (by decide)))
  have f188 := f168.other W183 (Or.inr (slot_ne (Or.inr (hw _ (List.mem_of_getElem? (i := 50) rfl))) (Or.inr (hw _ (List.mem_of_getElem? (i := 62) rfl))) (by decide) (t := .long) (t' := .long) (by decide) (by decide)))
  have f189 := f169.other W183 (Or.inr (slot_ne (Or.inr (hw _ (List.mem_of_getElem? (i := 52) rfl))) (Or.inr (hw _ (List.mem_of_getElem? (i := 62) rfl))) (by decide) (t := .long) (t' := .long) (by decide) (by decide)))
  have f190 := f170.other W183 (Or.inr (slot_ne (Or.inr (hw _ (List.mem_of_getElem? (i := 54) rfl))) (Or.inr (hw _ (List.mem_of_getElem? (i := 62) rfl))) (by decide) (t := .long) (t' := .long) (by decide) (by decide)))
  have f191 := f171.other W183 (Or.inr (slot_ne (Or.inr (hw _ (List.mem_of_getElem? (i := 56) rfl))) (Or.inr (hw _ (List.mem_of_getElem? (i := 62) rfl))) (by decide) (t := .long) (t' := .long) (by decide) (by decide)))
  have f192 := f172.other W183 (Or.inr (slot_ne (Or.inr (hw _ (List.mem_of_getElem? (i := 58) rfl))) (Or.inr (hw _ (List.mem_of_getElem? (i := 62) rfl))) (by decide) (t := .long) (t' := .long) (by decide) (by decide)))
  have f193 := f173.other W183 (Or.inr (slot_ne (Or.inr (hw _ (List.mem_of_getElem? (i := 60) rfl))) (Or.inr (hw _ (List.mem_of_getElem? (i := 62) rfl))) (by decide) (t := .long) (t' := .long) (by decide) (by decide)))
  have f194 := f174.same W183
  have f195 := f175.other W183 (Or.inr (slot_ne (Or.inr (hw _ (List.mem_of_getElem? (i := 64) rfl))) (Or.inr (hw _ (List.mem_of_getElem? (i := 62) rfl))) (by decide) (t := .long) (t' := .long) (by decide) (by decide)))
  have f196 := f176.other W183 (Or.inr (slot_ne (Or.inr (hw _ (List.mem_of_getElem? (i := 66) rfl))) (Or.inr (hw _ (List.mem_of_getElem? (i := 62) rfl))) (by decide) (t := .long) (t' := .long) (by decide) (by decide)))
  have f197 := f177.other W183 (Or.inr (slot_ne (Or.inr (hw _ (List.mem_of_getElem? (i := 68) rfl))) (Or.inr (hw _ (List.mem_of_getElem? (i := 62) rfl))) (by decide) (t := .long) (t' := .long) (by decide) (by decide)))
  have f198 := f178.other W183 (Or.inr (slot_ne (Or.inr (hw _ (List.mem_of_getElem? (i := 70) rfl))) (Or.inr (hw _ (List.mem_of_getElem? (i := 62) rfl))) (by decide) (t := .long) (t' := .long) (by decide) (by decide)))
  have f199 := f179.other W183 (Or.inr (slot_ne (Or.inr (hw _ (List.mem_of_getElem? (i := 72) rfl))) (Or.inr (hw _ (List.mem_of_getElem? (i := 62) rfl))) (by decide) (t := .long) (t' := .long) (by decide) (by decide)))
  have K200 := K180.wr W183 (Or.inl (List.mem_of_getElem? (i := 0) rfl))
  have zs201 : n0 ≤ h183.size := Nat.le_trans zs181 (Keep.of_wr W183).1
  have N202 := Fr.snoc X183 N182 g_a1
  obtain ⟨T203, h203, X203, e203, W203, st203⟩ := putF X183 hx hZ hown (host := "") (Or.inl (hw _ (List.mem_of_getElem? (i := 63) rfl))) Via.refl e183 f195 f184 (Or.inr ⟨(hw _ (List.mem_of_getElem? (i := 64) rfl)), rfl, hnm⟩) (hw _ (List.mem_of_getElem? (i := 3) rfl)) (ty := .long) (by decide) rfl rfl (g := (mkF m 65 #[.val (.ref a1), .val (.ref a2), .val (.long q3), .second, .val (.long q4), .second, .val (.long q5), .second, .val (.long q6), .second, .val (.long q7), .second, .val (.long q8), .second, .val (.long q9), .second, .val (.long q10), .second, .val (.long q11), .second, .val (.long q12), .second, .val (.long q13), .second, .val (.long q14), .second, .val (.long q15), .second, .val (.long q16), .second] [(.long q12), (.ref a1)])) rfl rfl (hb hby d7_65)
  have f204 := f184.wr W203
  have f205 := f185.other W203 (Or.inr (slot_ne (Or.inr (hw _ (List.mem_of_getElem? (i := 44) rfl))) (Or.inr (hw _ (List.mem_of_getElem? (i := 64) rfl))) (by decide) (t := (.object "java/lang/String")) (t' := .long) (by decide) (by decide)))
  have f206 := f186.other W203 (Or.inr (slot_ne (Or.inr (hw _ (List.mem_of_getElem? (i := 46) rfl))) (Or.inr (hw _ (List.mem_of_getElem? (i := 64) rfl))) (by decide) (t := .long) (t' := .long) (by decide) (by decide)))
  have f207 := f187.other W203 (Or.inr (slot_ne (Or.inr (hw _ (List.mem_of_getElem? (i := 48) rfl))) (Or.inr (hw _ (List.mem_of_getElem? (i := 64) rfl))) (by decide) (t := .long) (t' := .long) (by decide) (by decide)))
  have f208 := f188.other W203 (Or.inr (slot_ne (Or.inr (hw _ (List.mem_of_getElem? (i := 50) rfl))) (Or.inr (hw _ (List.mem_of_getElem? (i := 64) rfl))) (by decide) (t := .long) (t' := .long) (by decide) (by decide)))
  have f209 := f189.other W203 (Or.inr (slot_ne (Or.inr (hw _ (List.mem_of_getElem? (i := 52) rfl))) (Or.inr (hw _ (List.mem_of_getElem? (i := 64) rfl))) (by decide) (t := .long) (t' := .long) (by decide) (by decide)))
  have f210 := f190.other W203 (Or.inr (slot_ne (Or.inr (hw _ (List.mem_of_getElem? (i := 54) rfl))) (Or.inr (hw _ (List.mem_of_getElem? (i := 64) rfl))) (by decide) (t := .long) (t' := .long) (by decide) (by decide)))
  have f211 := f191.other W203 (Or.inr (slot_ne (Or.inr (hw _ (List.mem_of_getElem? (i := 56) rfl))) (Or.inr (hw _ (List.mem_of_getElem? (i := 64) rfl))) (by decide) (t := .long) (t' := .long) (by decide) (by decide)))
  have f212 := f192.other W203 (Or.inr (slot_ne (Or.inr (hw _ (List.mem_of_getElem? (i := 58) rfl))) (Or.inr (hw _ (List.mem_of_getElem? (i := 64) rfl))) (by decide) (t := .long) (t' := .long) (by decide) (by decide)))
  have f213 := f193.other W203 (Or.inr (slot_ne (Or.inr (hw _ (List.mem_of_getElem? (i := 60) rfl))) (Or.inr (hw _ (List.mem_of_getElem? (i := 64) rfl))) (by decide) (t := .long) (t' := .long) (by decide) (by decide)))
  have f214 := f194.other W203 (Or.inr (slot_ne (Or.inr (hw _ (List.mem_of_getElem? (i := 62) rfl))) (Or.inr (hw _ (List.mem_of_getElem? (i := 64) rfl))) (by decide) (t := .long) (t' := .long) (by decide) (by decide)))
  have f215 := f195.same W203
  have f216 := f196.other W203 (Or.inr (slot_ne (Or.inr (hw _ (List.mem_of_getElem? (i := 66) rfl))) (Or.inr (hw _ (List.mem_of_getElem? (i := 64) rfl))) (by decide) (t := .long) (t' := .long) (by decide) (by decide)))
  have f217 := f197.other W203 (Or.inr (slot_ne (Or.inr (hw _ (List.mem_of_getElem? (i := 68) rfl))) (Or.inr (hw _ (List.mem_of_getElem? (i := 64) rfl))) (by decide) (t := .long) (t' := .long) (by decide) (by decide)))
  have f218 := f198.other W203 (Or.inr (slot_ne (Or.inr (hw _ (List.mem_of_getElem? (i := 70) rfl))) (Or.inr (hw _ (List.mem_of_getElem? (i := 64) rfl))) (by decide) (t := .long) (t' := .long) (by decide) (by decide)))
  have f219 := f199.other W203 (Or.inr (slot_ne (Or.inr (hw _ (List.mem_of_getElem? (i := 72) rfl))) (Or.inr (hw _ (List.mem_of_getElem? (i := 64) rfl))) (by decide) (t := .long) (t' := .long) (by decide) (by decide)))
  have K220 := K200.wr W203 (Or.inl (List.mem_of_getElem? (i := 0) rfl))
  have zs221 : n0 ≤ h203.size := Nat.le_trans zs201 (Keep.of_wr W203).1
  have N222 := Fr.snoc X203 N202 g_a1
  obtain ⟨T223, h223, X223, e223, W223, st223⟩ := putF X203 hx hZ hown (host := "") (Or.inl (hw _ (List.mem_of_getElem? (i := 65) rfl))) Via.refl e203 f216 f204 (Or.inr ⟨(hw _ (List.mem_of_getElem? (i := 66) rfl)), rfl, hnm⟩) (hw _ (List.mem_of_getElem? (i := 3) rfl)) (ty := .long) (by decide) rfl rfl (g := (mkF m 71 #[.val (.ref a1), .val (.ref a2), .val (.long q3), .second, .val (.long q4), .second, .val (.long q5), .second, .val (.long q6), .second, .val (.long q7), .second, .val (.long q8), .second, .val (.long q9), .second, .val (.long q10), .second, .val (.long q11), .second, .val (.long q12), .second, .val (.long q13), .second, .val (.long q14), .second, .val (.long q15), .second, .val (.long q16), .second] [(.long q13), (.ref a1)])) rfl rfl (hb hby d7_71)
  have f224 := f204.wr W223
  have f225 := f205.other W223 (Or.inr (slot_ne (Or.inr (hw _ (List.mem_of_getElem? (i := 44) rfl))) (Or.inr (hw _ (List.mem_of_getElem? (i := 66) rfl))) (by decide) (t := (.object "java/lang/String")) (t' := .long) (by decide) (by decide)))
  have f226 := f206.other W223 (Or.inr (slot_ne (Or.inr (hw _ (List.mem_of_getElem? (i := 46) rfl))) (Or.inr (hw _ (List.mem_of_getElem? (i := 66) rfl))) (by decide) (t := .long) (t' := .long) (by decide) (by decide)))
  have f227 := f207.other W223 (Or.inr (slot_ne (Or.inr (hw _ (List.mem_of_getElem? (i := 48) rfl))) (Or.inr (hw _ (List.mem_of_getElem? (i := 66) rfl))) (by decide) (t := .long) (t' := .long) (by decide) (by decide)))
  have f228 := f208.other W223 (Or.inr (slot_ne (Or.inr (hw _ (List.mem_of_getElem? (i := 50) rfl))) (Or.inr (hw _ (List.mem_of_getElem? (i := 66) rfl))) (by decide) (t := .long) (t' := .long) (by decide) (by decide)))
  have f229 := f209.other W223 (Or.inr (slot_ne (Or.inr (hw _ (List.mem_of_getElem? (i := 52) rfl))) (Or.inr (hw _ (List.mem_of_getElem? (i := 66) rfl))) (by decide) (t := .long) (t' := .long) (by decide) (by decide)))
  have f230 := f210.other W223 (Or.inr (slot_ne (Or.inr (hw _ (List.mem_of_getElem? (i := 54) rfl))) (Or.inr (hw _ (List.mem_of_getElem? (i := 66) rfl))) (by decide) (t := .long) (t' := .long) (by decide) (by decide)))
  have f231 := f211.other W223 (Or.inr (slot_ne (Or.inr (hw _ (List.mem_of_getElem? (i := 56) rfl))) (Or.inr (hw _ (List.mem_of_getElem? (i := 66) rfl))) (by decide) (t := .long) (t' := .long) (by decide) (by decide)))
  have f232 := f212.other W223 (Or.inr (slot_ne (Or.inr (hw _ (List.mem_of_getElem? (i := 58) rfl))) (Or.inr (hw _ (List.mem_of_getElem? (i := 66) rfl))) (by decide) (t := .long) (t' := .long) (by decide) (by decide)))
  have f233 := f213.other W223 (Or.inr (slot_ne (Or.inr (hw _ (List.mem_of_getElem? (i := 60) rfl))) (Or.inr (hw _ (List.mem_of_getElem? (i := 66) rfl))) (by decide) (t := .long) (t' := .long) (by decide) (by decide)))
  have f234 := f214.other W223 (Or.inr (slot_ne (Or.inr (hw _ (List.mem_of_getElem? (i := 62) rfl))) (Or.inr (hw _ (List.mem_of_getElem? (i := 66) rfl))) (by decide) (t := .long) (t' := .long) (by decide) (by decide)))
  have f235 := f215.other W223 (Or.inr (slot_ne (Or.inr (hw _ (List.mem_of_getElem? (i := 64) rfl))) (Or.inr (hw _ (List.mem_of_getElem? (i := 66) rfl))) (by decide) (t := .long) (t' := .long) (by decide) (by decide)))
  have f236 := f216.same W223
  have f237 := f217.other W223 (Or.inr (slot_ne (Or.inr (hw _ (List.mem_of_getElem? (i := 68) rfl))) (Or.inr (hw _ (List.mem_of_getElem? (i := 66) rfl))) (by decide) (t := .long) (t' := .long) (by decide) (by decide)))
  have f238 := f218.other W223 (Or.inr (slot_ne (Or.inr (hw _ (List.mem_of_getElem? (i := 70) rfl))) (Or.inr (hw _ (List.mem_of_getElem? (i := 66) rfl))) (by decide) (t := .long) (t' := .long) (by decide) (by decide)))
  have f239 := f219.other W223 (Or.inr (slot_ne (Or.inr (hw _ (List.mem_of_getElem? (i := 72) rfl))) (Or.inr (hw _ (List.mem_of_getElem? (i := 66) rfl))) (by decide) (t := .long) (t' := .long) (by decide) (by decide)))
  have K240 := K220.wr W223 (Or.inl (List.mem_of_getElem? (i := 0) rfl))
  have zs241 : n0 ≤ h223.size := Nat.le_trans zs221 (Keep.of_wr W223).1
  have N242 := Fr.snoc X223 N222 g_a1
  obtain ⟨T243, h243, X243, e243, W243, st243⟩ := putF X223 hx hZ hown (host := "") (Or.inl (hw _ (List.mem_of_getElem? (i := 67) rfl))) Via.refl e223 f237 f224 (Or.inr ⟨(hw _ (List.mem_of_getElem? (i := 68) rfl)), rfl, hnm⟩) (hw _ (List.mem_of_getElem? (i := 3) rfl)) (ty := .long) (by decide) rfl rfl (g := (mkF m 77 #[.val (.ref a1), .val (.ref a2), .val (.long q3), .second, .val (.long q4), .second, .val (.long q5), .second, .val (.long q6), .second, .val (.long q7), .second, .val (.long q8), .second, .val (.long q9), .second, .val (.long q10), .second, .val (.long q11), .second, .val (.long q12), .second, .val (.long q13), .second, .val (.long q14), .second, .val (.long q15), .second, .val (.long q16), .second] [(.long q14), (.ref a1)])) rfl rfl (hb hby d7_77)
  have f244 := f224.wr W243
  have f245 := f225.other W243 (Or.inr (slot_ne (Or.inr (hw _ (List.mem_of_getElem? (i := 44) rfl))) (Or.inr (hw _ (List.mem_of_getElem? (i := 68) rfl))) (by decide) (t := (.object "java/lang/String")) (t' := .long) (by decide) (by decide)))
  have f246 := f226.other W243 (Or.inr (slot_ne (Or.inr (hw _ (List.mem_of_getElem? (i := 46) rfl))) (Or.inr (hw _ (List.mem_of_getElem? (i := 68) rfl))) (by decide) (t := .long) (t' := .long) (by decide) (by decide)))
  have f247 := f227.other W243 (Or.inr (slot_ne (Or.inr (hw _ (List.mem_of_getElem? (i := 48) rfl))) (Or.inr (hw _ (List.mem_of_getElem? (i := 68) rfl))) (by decide) (t := .long) (t' := .long) (by decide) (by decide)))
  have f248 := f228.other W243 (Or.inr (slot_ne (Or.inr (hw _ (List.mem_of_getElem? (i := 50) rfl))) (Or.inr (hw _ (List.mem_of_getElem? (i := 68) rfl))) (by decide) (t := .long) (t' := .long) (by decide) (by decide)))
  have f249 := f229.other W243 (Or.inr (slot_ne (Or.inr (hw _ (List.mem_of_getElem? (i := 52) rfl))) (Or.inr (hw _ (List.mem_of_getElem? (i := 68) rfl))) (by decide) (t := .long) (t' := .long) (by decide) (by decide)))
  have f250 := f230.other W243 (Or.inr (slot_ne (Or.inr (hw _ (List.mem_of_getElem? (i := 54) rfl))) (Or.inr (hw _ (List.mem_of_getElem? (i := 68) rfl))) (by decide) (t := .long) (t' := .long) (by decide) (by decide)))
  have f251 := f231.other W243 (Or.inr (slot_ne (Or.inr (hw _ (List.mem_of_getElem? (i := 56) rfl))) (Or.inr (hw _ (List.mem_of_getElem? (i := 68) rfl))) (by decide) (t := .long) (t' := .long) (by decide) (by decide)))
  have f252 := f232.other W243 (Or.inr (slot_ne (Or.inr (hw _ (List.mem_of_getElem? (i := 58) rfl))) (Or.inr (hw _ (List.mem_of_getElem? (i := 68) rfl))) (by decide) (t := .long) (t' := .long) (by decide) (by decide)))
  have f253 := f233.other W243 (Or.inr (slot_ne (Or.inr (hw _ (List.mem_of_getElem? (i := 60) rfl))) (Or.inr (hw _ (List.mem_of_getElem? (i := 68) rfl))) (by decide) (t := .long) (t' := .long) (by decide) (by decide)))
  have f254 := f234.other W243 (Or.inr (slot_ne (Or.inr (hw _ (List.mem_of_getElem? (i := 62) rfl))) (Or.inr (hw _ (List.mem_of_getElem? (i := 68) rfl))) (by decide) (t := .long) (t' := .long) (by decide) (by decide)))
  have f255 := f235.other W243 (Or.inr (slot_ne (Or.inr (hw _ (List.mem_of_getElem? (i := 64) rfl))) (Or.inr (hw _ (List.mem_of_getElem? (i := 68) rfl))) (by decide) (t := .long) (t' := .long) (by decide) (by decide)))
  have f256 := f236.other W243 (Or.inr (slot_ne (Or.inr (hw _ (List.mem_of_getElem? (i := 66) rfl))) (Or.inr (hw _ (List.mem_of_getElem? (i := 68) rfl))) (by decide) (t := .long) (t' := .long) (by decide) (by decide)))
  have f257 := f237.same W243
  have f258 := f238.other W243 (Or.inr (slot_ne (Or.inr (hw _ (List.mem_of_getElem? (i := 70) rfl))) (Or.inr (hw _ (List.mem_of_getElem? (i := 68) rfl))) (by decide) (t := .long) (t' := .long) (by decide) (by decide)))
  have f259 := f239.other W243 (Or.inr (slot_ne (Or.inr (hw _ (List.mem_of_getElem? (i := 72) rfl))) (Or.inr (hw _ (List.mem_of_getElem? (i := 68) rfl))) (by decide) (t := .long) (t' := .long) (by decide) (by decide)))
  have K260 := K240.wr W243 (Or.inl (List.mem_of_getElem? (i := 0) rfl))
  have zs261 : n0 ≤ h243.size := Nat.le_trans zs241 (Keep.of_wr W243).1
  have N262 := Fr.snoc X243 N242 g_a1
  obtain ⟨T263, h263, X263, e263, W263, st263⟩ := putF X243 hx hZ hown (host := "") (Or.inl (hw _ (List.mem_of_getElem? (i := 69) rfl))) Via.refl e243 f258 f244 (Or.inr ⟨(hw _ (List.mem_of_getElem? (i := 70) rfl)), rfl, hnm⟩) (hw _ (List.mem_of_getElem? (i := 3) rfl)) (ty := .long) (by decide) rfl rfl (g := (mkF m 83 #[.val (.ref a1), .val (.ref a2), .val (.long q3), .second, .val (.long q4), .second, .val (.long q5), .second, .val (.long q6), .second, .val (.long q7), .second, .val (.long q8), .second, .val (.long q9), .second, .val (.long q10), .second, .val (.long q11), .second, .val (.long q12), .second, .val (.long q13), .second, .val (.long q14), .second, .val (.long q15), .second, .val (.long q16), .second] [(.long q15), (.ref a1)])) rfl rfl (hb hby d7_83)
  have f264 := f244.wr W263
  have f265 := f245.other W263 (Or.inr (slot_ne (Or.inr (hw _ (List.mem_of_getElem? (i := 44) rfl))) (Or.inr (hw _ (List.mem_of_getElem? (i := 70) rfl))) (by decide) (t := (.object "java/lang/String")) (t' := .long) (by decide) (by decide)))
  have f266 := f246.other W263 (Or.inr (slot_ne (Or.inr (hw _ (List.mem_of_getElem? (i := 46) rfl))) (Or.inr (hw _ (List.mem_of_getElem? (i := 70) rfl))) (by decide) (t := .long) (t' := .long) (by decide) (by decide)))
  have f267 := f247.other W263 (Or.inr (slot_ne (Or.inr (hw _ (List.mem_of_getElem? (i := 48) rfl))) (Or.inr (hw _ (List.mem_of_getElem? (i := 70) rfl))) (by decide) (t := .long) (t' := .long) (by decide) (by decide)))
  have f268 := f248.other W263 (Or.inr (slot_ne (Or.inr (hw _ (List.mem_of_getElem? (i := 50) rfl))) (Or.inr (hw _ (List.mem_of_getElem? (i := 70) rfl))) (by decide) (t := .long) (t' := .long) (by decide) (by decide)))
  have f269 := f249.other W263 (Or.inr (slot_ne (Or.inr (hw _ (List.mem_of_getElem? (i := 52) rfl))) (Or.inr (hw _ (List.mem_of_getElem? (i := 70) rfl))) (by decide) (t := .long) (t' := .long) (by decide) (by decide)))
  have f270 := f250.other W263 (Or.inr (slot_ne (Or.inr (hw _ (List.mem_of_getElem? (i := 54) rfl))) (Or.inr (hw _ (List.mem_of_getElem? (i := 70) rfl))) (by decide) (t := .long) (t' := .long) (by decide) (by decide)))
  have f271 := f251.other W263 (Or.inr (slot_ne (Or.inr (hw _ (List.mem_of_getElem? (i := 56) rfl))) (Or.inr (hw _ (List.mem_of_getElem? (i := 70) rfl))) (by decide) (t := .long) (t' := .long) (by decide) (by decide)))
  have f272 := f252.other W263 (Or.inr (slot_ne (Or.inr (hw _ (List.mem_of_getElem? (i := 58) rfl))) (Or.inr (hw _ (List.mem_of_getElem? (i := 70) rfl))) (by decide) (t := .long) (t' := .long) (by decide) (by decide)))
  have f273 := f253.other W263 (Or.inr (slot_ne (Or.inr (hw _ (List.mem_of_getElem? (i := 60) rfl))) (Or.inr (hw _ (List.mem_of_getElem? (i := 70) rfl))) (by decide) (t := .long) (t' := .long) (by decide) (by decide)))
  have f274 := f254.other W263 (Or.inr (slot_ne (Or.inr (hw _ (List.mem_of_getElem? (i := 62) rfl))) (Or.inr (hw _ (List.mem_of_getElem? (i := 70) rfl))) (by decide) (t := .long) (t' := .long) (by decide) (by decide)))
  have f275 := f255.other W263 (Or.inr (slot_ne (Or.inr (hw _ (List.mem_of_getElem? (i := 64) rfl))) (Or.inr (hw _ (List.mem_of_getElem? (i := 70) rfl))) (by decide) (t := .long) (t' := .long) (by decide) (by decide)))
  have f276 := f256.other W263 (Or.inr (slot_ne (Or.inr (hw _ (List.mem_of_getElem? (i := 66) rfl))) (Or.inr (hw _ (List.mem_of_getElem? (i := 70) rfl))) (by decide) (t := .long) (t' := .long) (by decide) (by decide)))
  have f277 := f257.other W263 (Or.inr (slot_ne (Or.inr (hw _ (List.mem_of_getElem? (i := 68) rfl))) (Or.inr (hw _ (List.mem_of_getElem? (i := 70) rfl))) (by decide) (t := .long) (t' := .long) (by decide) (by decide)))
  have f278 := f258.same W263
  have f279 := f259.other W263 (Or.inr (slot_ne (Or.inr (hw _ (List.mem_of_getElem? (i := 72) rfl))) (Or.inr (hw _ (List.mem_of_getElem? (i := 70) rfl))) (by decide) (t := .long) (t' := .long) (by decide) (by decide)))
  have K280 := K260.wr W263 (Or.inl (List.mem_of_getElem? (i := 0) rfl))
  have zs281 : n0 ≤ h263.size := Nat.le_trans zs261 (Keep.of_wr W263).1
  have N282 := Fr.snoc X263 N262 g_a1
  obtain ⟨T283, h283, X283, e283, W283, st283⟩ := putF X263 hx hZ hown (host := "") (Or.inl (hw _ (List.mem_of_getElem? (i := 71) rfl))) Via.refl e263 f279 f264 (Or.inr ⟨(hw _ (List.mem_of_getElem? (i := 72) rfl)), rfl, hnm⟩) (hw _ (List.mem_of_getElem? (i := 3) rfl)) (ty := .long) (by decide) rfl rfl (g := (mkF m 89 #[.val (.ref a1), .val (.ref a2), .val (.long q3), .second, .val (.long q4), .second, .val (.long q5), .second, .val (.long q6), .second, .val (.long q7), .second, .val (.long q8), .second, .val (.long q9), .second, .val (.long q10), .second, .val (.long q11), .second, .val (.long q12), .second, .val (.long q13), .second, .val (.long q14), .second, .val (.long q15), .second, .val (.long q16), .second] [(.long q16), (.ref a1)])) rfl rfl (hb hby d7_89)
  have f284 := f264.wr W283
  have f285 := f265.other W283 (Or.inr (slot_ne (Or.inr (hw _ (List.mem_of_getElem? (i := 44) rfl))) (Or.inr (hw _ (List.mem_of_getElem? (i := 72) rfl))) (by decide) (t := (.object "java/lang/String")) (t' := .long) (by decide) (by decide)))
  have f286 := f266.other W283 (Or.inr (slot_ne (Or.inr (hw _ (List.mem_of_getElem? (i := 46) rfl))) (Or.inr (hw _ (List.mem_of_getElem? (i := 72) rfl))) (by decide) (t := .long) (t' := .long) (by decide) (by decide)))
  have f287 := f267.other W283 (Or.inr (slot_ne (Or.inr (hw _ (List.mem_of_getElem? (i := 48) rfl))) (Or.inr (hw _ (List.mem_of_getElem? (i := 72) rfl))) (by decide) (t := .long) (t' := .long) (by decide) (by decide)))
  have f288 := f268.other W283 (Or.inr (slot_ne (Or.inr (hw _ (List.mem_of_getElem? (i := 50) rfl))) (Or.inr (hw _ (List.mem_of_getElem? (i := 72) rfl))) (by decide) (t := .long) (t' := .long) (by decide) (by decide)))
  have f289 := f269.other W283 (Or.inr (slot_ne (Or.inr (hw _ (List.mem_of_getElem? (i := 52) rfl))) (Or.inr (hw _ (List.mem_of_getElem? (i := 72) rfl))) (by decide) (t := .long) (t' := .long) (by decide) (by decide)))
  have f290 := f270.other W283 (Or.inr (slot_ne (Or.inr (hw _ (List.mem_of_getElem? (i := 54) rfl))) (Or.inr (hw _ (List.mem_of_getElem? (i := 72) rfl))) (by decide) (t := .long) (t' := .long) (by decide) (by decide)))
  have f291 := f271.other W283 (Or.inr (slot_ne (Or.inr (hw _ (List.mem_of_getElem? (i := 56) rfl))) (Or.inr (hw _ (List.mem_of_getElem? (i := 72) rfl))) (by decide) (t := .long) (t' := .long) (by decide) (by decide)))
  have f292 := f272.other W283 (Or.inr (slot_ne (Or.inr (hw _ (List.mem_of_getElem? (i := 58) rfl))) (Or.inr (hw _ (List.mem_of_getElem? (i := 72) rfl))) (by decide) (t := .long) (t' := .long) (by decide) (by decide)))
  have f293 := f273.other W283 (Or.inr (slot_ne (Or.inr (hw _ (List.mem_of_getElem? (i := 60) rfl))) (Or.inr (hw _ (List.mem_of_getElem? (i := 72) rfl))) (by decide) (t := .long) (t' := .long) (by decide) (by decide)))
  have f294 := f274.other W283 (Or.inr (slot_ne (Or.inr (hw _ (List.mem_of_getElem? (i := 62) rfl))) (Or.inr (hw _ (List.mem_of_getElem? (i := 72) rfl))) (by decide) (t := .long) (t' := .long) (by decide) (by decide)))
  have f295 := f275.other W283 (Or.inr (slot_ne (Or.inr (hw _ (List.mem_of_getElem? (i := 64) rfl))) (Or.inr (hw _ (List.mem_of_getElem? (i := 72) rfl))) (by decide) (t := .long) (t' := .long) (by decide) (by decide)))
  have f296 := f276.other W283 (Or.inr (slot_ne (Or.inr (hw _ (List.mem_of_getElem? (i := 66) rfl))) (Or.inr (hw _ (List.mem_of_getElem? (i := 72) rfl))) (by decide) (t := .long) (t' := .long) (by decide) (by decide)))
  have f297 := f277.other W283 (Or.inr (slot_ne (Or.inr (hw _ (List.mem_of_getElem? (i := 68) rfl))) (Or.inr (hw _ (List.mem_of_getElem? (i := 72) rfl))) (by decide) (t := .long) (t' := .long) (by decide) (by decide)))
  have f298 := f278.other W283 (Or.inr (slot_ne (Or.inr (hw _ (List.mem_of_getElem? (i := 70) rfl))) (Or.inr (hw _ (List.mem_of_getElem? (i := 72) rfl))) (by decide) (t := .long) (t' := .long) (by decide) (by decide)))
  have f299 := f279.same W283
  have K300 := K280.wr W283 (Or.inl (List.mem_of_getElem? (i := 0) rfl))
  have zs301 : n0 ≤ h283.size := Nat.le_trans zs281 (Keep.of_wr W283).1
  have N302 := Fr.snoc X283 N282 g_a1
  obtain ⟨fs, hr, hrun, hended, hW, hsame⟩ := X283.leave (v := none) (fun _ => rfl) Bd.notSynchronized
  refine ⟨_, _, pre0 _ ?_, hrun, hended, _, _, rfl, ?_, ⟨_, rfl⟩, hW, hsame.mono (by decide) (by decide)⟩
  · show Steps p.tables e below (s₁.setTop (mkF m 0 #[.val (.ref a1), .val (.ref a2), .val (.long q3), .second, .val (.long q4), .second, .val (.long q5), .second, .val (.long q6), .second, .val (.long q7), .second, .val (.long q8), .second, .val (.long q9), .second, .val (.long q10), .second, .val (.long q11), .second, .val (.long q12), .second, .val (.long q13), .second, .val (.long q14), .second, .val (.long q15), .second, .val (.long q16), .second] [])) _
    refine XS.aloadN X0.here hx rfl (hb hby d7_0) rfl rfl ?_
    show Steps p.tables e below (s₁.setTop (mkF m 1 #[.val (.ref a1), .val (.ref a2), .val (.long q3), .second, .val (.long q4), .second, .val (.long q5), .second, .val (.long q6), .second, .val (.long q7), .second, .val (.long q8), .second, .val (.long q9), .second, .val (.long q10), .second, .val (.long q11), .second, .val (.long q12), .second, .val (.long q13), .second, .val (.long q14), .second, .val (.long q15), .second, .val (.long q16), .second] [(.ref a1)])) _
    refine st1.trans ?_
    show Steps p.tables e below (T1.setTop (mkF m 4 #[.val (.ref a1), .val (.ref a2), .val (.long q3), .second, .val (.long q4), .second, .val (.long q5), .second, .val (.long q6), .second, .val (.long q7), .second, .val (.long q8), .second, .val (.long q9), .second, .val (.long q10), .second, .val (.long q11), .second, .val (.long q12), .second, .val (.long q13), .second, .val (.long q14), .second, .val (.long q15), .second, .val (.long q16), .second] [])) _
    refine XS.aloadN X1.here hx rfl (hb hby d7_4) rfl rfl ?_
    show Steps p.tables e below (T1.setTop (mkF m 5 #[.val (.ref a1), .val (.ref a2), .val (.long q3), .second, .val (.long q4), .second, .val (.long q5), .second, .val (.long q6), .second, .val (.long q7), .second, .val (.long q8), .second, .val (.long q9), .second, .val (.long q10), .second, .val (.long q11), .second, .val (.long q12), .second, .val (.long q13), .second, .val (.long q14), .second, .val (.long q15), .second, .val (.long q16), .second] [(.ref a1)])) _
    refine XS.aloadN X1.here hx rfl (hb hby d7_5) rfl rfl ?_
    show Steps p.tables e below (T1.setTop (mkF m 6 #[.val (.ref a1), .val (.ref a2), .val (.long q3), .second, .val (.long q4), .second, .val (.long q5), .second, .val (.long q6), .second, .val (.long q7), .second, .val (.long q8), .second, .val (.long q9), .second, .val (.long q10), .second, .val (.long q11), .second, .val (.long q12), .second, .val (.long q13), .second, .val (.long q14), .second, .val (.long q15), .second, .val (.long q16), .second] [(.ref a2), (.ref a1)])) _
    refine st3 _ ?_
    show Steps p.tables e below (T3.setTop (mkF m 9 #[.val (.ref a1), .val (.ref a2), .val (.long q3), .second, .val (.long q4), .second, .val (.long q5), .second, .val (.long q6), .second, .val (.long q7), .second, .val (.long q8), .second, .val (.long q9), .second, .val (.long q10), .second, .val (.long q11), .second, .val (.long q12), .second, .val (.long q13), .second, .val (.long q14), .second, .val (.long q15), .second, .val (.long q16), .second] [])) _
    refine XS.aloadN X3.here hx rfl (hb hby d7_9) rfl rfl ?_
    show Steps p.tables e below (T3.setTop (mkF m 10 #[.val (.ref a1), .val (.ref a2), .val (.long q3), .second, .val (.long q4), .second, .val (.long q5), .second, .val (.long q6), .second, .val (.long q7), .second, .val (.long q8), .second, .val (.long q9), .second, .val (.long q10), .second, .val (.long q11), .second, .val (.long q12), .second, .val (.long q13), .second, .val (.long q14), .second, .val (.long q15), .second, .val (.long q16), .second] [(.ref a1)])) _
    refine XS.lloadN X3.here hx rfl (hb hby d7_10) rfl ?_
    show Steps p.tables e below (T3.setTop (mkF m 11 #[.val (.ref a1), .val (.ref a2), .val (.long q3), .second, .val (.long q4), .second, .val (.long q5), .second, .val (.long q6), .second, .val (.long q7), .second, .val (.long q8), .second, .val (.long q9), .second, .val (.long q10), .second, .val (.long q11), .second, .val (.long q12), .second, .val (.long q13), .second, .val (.long q14), .second, .val (.long q15), .second, .val (.long q16), .second] [(.long q3), (.ref a1)])) _
    refine st23 _ ?_
    show Steps p.tables e below (T23.setTop (mkF m 14 #[.val (.ref a1), .val (.ref a2), .val (.long q3), .second, .val (.long q4), .second, .val (.long q5), .second, .val (.long q6), .second, .val (.long q7), .second, .val (.long q8), .second, .val (.long q9), .second, .val (.long q10), .second, .val (.long q11), .second, .val (.long q12), .second, .val (.long q13), .second, .val (.long q14), .second, .val (.long q15), .second, .val (.long q16), .second] [])) _
    refine XS.aloadN X23.here hx rfl (hb hby d7_14) rfl rfl ?_
    show Steps p.tables e below (T23.setTop (mkF m 15 #[.val (.ref a1), .val (.ref a2), .val (.long q3), .second, .val (.long q4), .second, .val (.long q5), .second, .val (.long q6), .second, .val (.long q7), .second, .val (.long q8), .second, .val (.long q9), .second, .val (.long q10), .second, .val (.long q11), .second, .val (.long q12), .second, .val (.long q13), .second, .val (.long q14), .second, .val (.long q15), .second, .val (.long q16), .second] [(.ref a1)])) _
    refine XS.lload X23.here hx rfl (hb hby d7_15) rfl ?_
    show Steps p.tables e below (T23.setTop (mkF m 17 #[.val (.ref a1), .val (.ref a2), .val (.long q3), .second, .val (.long q4), .second, .val (.long q5), .second, .val (.long q6), .second, .val (.long q7), .second, .val (.long q8), .second, .val (.long q9), .second, .val (.long q10), .second, .val (.long q11), .second, .val (.long q12), .second, .val (.long q13), .second, .val (.long q14), .second, .val (.long q15), .second, .val (.long q16), .second] [(.long q4), (.ref a1)])) _
    refine st43 _ ?_
    show Steps p.tables e below (T43.setTop (mkF m 20 #[.val (.ref a1), .val (.ref a2), .val (.long q3), .second, .val (.long q4), .second, .val (.long q5), .second, .val (.long q6), .second, .val (.long q7), .second, .val (.long q8), .second, .val (.long q9), .second, .val (.long q10), .second, .val (.long q11), .second, .val (.long q12), .second, .val (.long q13), .second, .val (.long q14), .second, .val (.long q15), .second, .val (.long q16), .second] [])) _
    refine XS.aloadN X43.here hx rfl (hb hby d7_20) rfl rfl ?_
    show Steps p.tables e below (T43.setTop (mkF m 21 #[.val (.ref a1), .val (.ref a2), .val (.long q3), .second, .val (.long q4), .second, .val (.long q5), .second, .val (.long q6), .second, .val (.long q7), .second, .val (.long q8), .second, .val (.long q9), .second, .val (.long q10), .second, .val (.long q11), .second, .val (.long q12), .second, .val (.long q13), .second, .val (.long q14), .second, .val (.long q15), .second, .val (.long q16), .second] [(.ref a1)])) _
    refine XS.lload X43.here hx rfl (hb hby d7_21) rfl ?_
    show Steps p.tables e below (T43.setTop (mkF m 23 #[.val (.ref a1), .val (.ref a2), .val (.long q3), .second, .val (.long q4), .second, .val (.long q5), .second, .val (.long q6), .second, .val (.long q7), .second, .val (.long q8), .second, .val (.long q9), .second, .val (.long q10), .second, .val (.long q11), .second, .val (.long q12), .second, .val (.long q13), .second, .val (.long q14), .second, .val (.long q15), .second, .val (.long q16), .second] [(.long q5), (.ref a1)])) _
    refine st63 _ ?_
    show Steps p.tables e below (T63.setTop (mkF m 26 #[.val (.ref a1), .val (.ref a2), .val (.long q3), .second, .val (.long q4), .second, .val (.long q5), .second, .val (.long q6), .second, .val (.long q7), .second, .val (.long q8), .second, .val (.long q9), .second, .val (.long q10), .second, .val (.long q11), .second, .val (.long q12), .second, .val (.long q13), .second, .val (.long q14), .second, .val (.long q15), .second, .val (.long q16), .second] [])) _
    refine XS.aloadN X63.here hx rfl (hb hby d7_26) rfl rfl ?_
    show Steps p.tables e below (T63.setTop (mkF m 27 #[.val (.ref a1), .val (.ref a2), .val (.long q3), .second, .val (.long q4), .second, .val (.long q5), .second, .val (.long q6), .second, .val (.long q7), .second, .val (.long q8), .second, .val (.long q9), .second, .val (.long q10), .second, .val (.long q11), .second, .val (.long q12), .second, .val (.long q13), .second, .val (.long q14), .second, .val (.long q15), .second, .val (.long q16), .second] [(.ref a1)])) _
    refine XS.lload X63.here hx rfl (hb hby d7_27) rfl ?_
    show Steps p.tables e below (T63.setTop (mkF m 29 #[.val (.ref a1), .val (.ref a2), .val (.long q3), .second, .val (.long q4), .second, .val (.long q5), .second, .val (.long q6), .second, .val (.long q7), .second, .val (.long q8), .second, .val (.long q9), .second, .val (.long q10), .second, .val (.long q11), .second, .val (.long q12), .second, .val (.long q13), .second, .val (.long q14), .second, .val (.long q15), .second, .val (.long q16), .second] [(.long q6), (.ref a1)])) _
    refine st83 _ ?_
    show Steps p.tables e below (T83.setTop (mkF m 32 #[.val (.ref a1), .val (.ref a2), .val (.long q3), .second, .val (.long q4), .second, .val (.long q5), .second, .val (.long q6), .second, .val (.long q7), .second, .val (.long q8), .second, .val (.long q9), .second, .val (.long q10), .second, .val (.long q11), .second, .val (.long q12), .second, .val (.long q13), .second, .val (.long q14), .second, .val (.long q15), .second, .val (.long q16), .second] [])) _
    refine XS.aloadN X83.here hx rfl (hb hby d7_32) rfl rfl ?_
    show Steps p.tables e below (T83.setTop (mkF m 33 #[.val (.ref a1), .val (.ref a2), .val (.long q3), .second, .val (.long q4), .second, .val (.long q5), .second, .val (.long q6), .second, .val (.long q7), .second, .val (.long q8), .second, .val (.long q9), .second, .val (.long q10), .second, .val (.long q11), .second, .val (.long q12), .second, .val (.long q13), .second, .val (.long q14), .second, .val (.long q15), .second, .val (.long q16), .second] [(.ref a1)])) _
    refine XS.lload X83.here hx rfl (hb hby d7_33) rfl ?_
    show Steps p.tables e below (T83.setTop (mkF m 35 #[.val (.ref a1), .val (.ref a2), .val (.long q3), .second, .val (.long q4), .second, .val (.long q5), .second, .val (.long q6), .second, .val (.long q7), .second, .val (.long q8), .second, .val (.long q9), .second, .val (.long q10), .second, .val (.long q11), .second, .val (.long q12), .second, .val (.long q13), .second, .val (.long q14), .second, .val (.long q15), .second, .val (.long q16), .second] [(.long q7), (.ref a1)])) _
    refine st103 _ ?_
    show Steps p.tables e below (T103.setTop (mkF m 38 #[.val (.ref a1), .val (.ref a2), .val (.long q3), .second, .val (.long q4), .second, .val (.long q5), .second, .val (.long q6), .second, .val (.long q7), .second, .val (.long q8), .second, .val (.long q9), .second, .val (.long q10), .second, .val (.long q11), .second, .val (.long q12), .second, .val (.long q13), .second, .val (.long q14), .second, .val (.long q15), .second, .val (.long q16), .second] [])) _
    refine XS.aloadN X103.here hx rfl (hb hby d7_38) rfl rfl ?_
    show Steps p.tables e below (T103.setTop (mkF m 39 #[.val (.ref a1), .val (.ref a2), .val (.long q3), .second, .val (.long q4), .second, .val (.long q5), .second, .val (.long q6), .second, .val (.long q7), .second, .val (.long q8), .second, .val (.long q9), .second, .val (.long q10), .second, .val (.long q11), .second, .val (.long q12), .second, .val (.long q13), .second, .val (.long q14), .second, .val (.long q15), .second, .val (.long q16), .second] [(.ref a1)])) _
    refine XS.lload X103.here hx rfl (hb hby d7_39) rfl ?_
    show Steps p.tables e below (T103.setTop (mkF m 41 #[.val (.ref a1), .val (.ref a2), .val (.long q3), .second, .val (.long q4), .second, .val (.long q5), .second, .val (.long q6), .second, .val (.long q7), .second, .val (.long q8), .second, .val (.long q9), .second, .val (.long q10), .second, .val (.long q11), .second, .val (.long q12), .second, .val (.long q13), .second, .val (.long q14), .second, .val (.long q15), .second, .val (.long q16), .second] [(.long q8), (.ref a1)])) _
    refine st123 _ ?_
    show Steps p.tables e below (T123.setTop (mkF m 44 #[.val (.ref a1), .val (.ref a2), .val (.long q3), .second, .val (.long q4), .second, .val (.long q5), .second, .val (.long q6), .second, .val (.long q7), .second, .val (.long q8), .second, .val (.long q9), .second, .val (.long q10), .second, .val (.long q11), .second, .val (.long q12), .second, .val (.long q13), .second, .val (.long q14), .second, .val (.long q15), .second, .val (.long q16), .second] [])) _
    refine XS.aloadN X123.here hx rfl (hb hby d7_44) rfl rfl ?_
    show Steps p.tables e below (T123.setTop (mkF m 45 #[.val (.ref a1), .val (.ref a2), .val (.long q3), .second, .val (.long q4), .second, .val (.long q5), .second, .val (.long q6), .second, .val (.long q7), .second, .val (.long q8), .second, .val (.long q9), .second, .val (.long q10), .second, .val (.long q11), .second, .val (.long q12), .second, .val (.long q13), .second, .val (.long q14), .second, .val (.long q15), .second, .val (.long q16), .second] [(.ref a1)])) _
    refine XS.lload X123.here hx rfl (hb hby d7_45) rfl ?_
    show Steps p.tables e below (T123.setTop (mkF m 47 #[.val (.ref a1), .val (.ref a2), .val (.long q3), .second, .val (.long q4), .second, .val (.long q5), .second, .val (.long q6), .second, .val (.long q7), .second, .val (.long q8), .second, .val (.long q9), .second, .val (.long q10), .second, .val (.long q11), .second, .val (.long q12), .second, .val (.long q13), .second, .val (.long q14), .second, .val (.long q15), .second, .val (.long q16), .second] [(.long q9), (.ref a1)])) _
    refine st143 _ ?_
    show Steps p.tables e below (T143.setTop (mkF m 50 #[.val (.ref a1), .val (.ref a2), .val (.long q3), .second, .val (.long q4), .second, .val (.long q5), .second, .val (.long q6), .second, .val (.long q7), .second, .val (.long q8), .second, .val (.long q9), .second, .val (.long q10), .second, .val (.long q11), .second, .val (.long q12), .second, .val (.long q13), .second, .val (.long q14), .second, .val (.long q15), .second, .val (.long q16), .second] [])) _
    refine XS.aloadN X143.here hx rfl (hb hby d7_50) rfl rfl ?_
    show Steps p.tables e below (T143.setTop (mkF m 51 #[.val (.ref a1), .val (.ref a2), .val (.long q3), .second, .val (.long q4), .second, .val (.long q5), .second, .val (.long q6), .second, .val (.long q7), .second, .val (.long q8), .second, .val (.long q9), .second, .val (.long q10), .second, .val (.long q11), .second, .val (.long q12), .second, .val (.long q13), .second, .val (.long q14), .second, .val (.long q15), .second, .val (.long q16), .second] [(.ref a1)])) _
    refine XS.lload X143.here hx rfl (hb hby d7_51) rfl ?_
    show Steps p.tables e below (T143.setTop (mkF m 53 #[.val (.ref a1), .val (.ref a2), .val (.long q3), .second, .val (.long q4), .second, .val (.long q5), .second, .val (.long q6), .second, .val (.long q7), .second, .val (.long q8), .second, .val (.long q9), .second, .val (.long q10), .second, .val (.long q11), .second, .val (.long q12), .second, .val (.long q13), .second, .val (.long q14), .second, .val (.long q15), .second, .val (.long q16), .second] [(.long q10), (.ref a1)])) _
    refine st163 _ ?_
    show Steps p.tables e below (T163.setTop (mkF m 56 #[.val (.ref a1), .val (.ref a2), .val (.long q3), .second, .val (.long q4), .second, .val (.long q5), .second, .val (.long q6), .second, .val (.long q7), .second, .val (.long q8), .second, .val (.long q9), .second, .val (.long q10), .second, .val (.long q11), .second, .val (.long q12), .second, .val (.long q13), .second, .val (.long q14), .second, .val (.long q15), .second, .val (.long q16), .second] [])) _
    refine XS.aloadN X163.here hx rfl (hb hby d7_56) rfl rfl ?_
    show Steps p.tables e below (T163.setTop (mkF m 57 #[.val (.ref a1), .val (.ref a2), .val (.long q3), .second, .val (.long q4), .second, .val (.long q5), .second, .val (.long q6), .second, .val (.long q7), .second, .val (.long q8), .second, .val (.long q9), .second, .val (.long q10), .second, .val (.long q11), .second, .val (.long q12), .second, .val (.long q13), .second, .val (.long q14), .second, .val (.long q15), .second, .val (.long q16), .second] [(.ref a1)])) _
    refine XS.lload X163.here hx rfl (hb hby d7_57) rfl ?_
    show Steps p.tables e below (T163.setTop (mkF m 59 #[.val (.ref a1), .val (.ref a2), .val (.long q3), .second, .val (.long q4), .second, .val (.long q5), .second, .val (.long q6), .second, .val (.long q7), .second, .val (.long q8), .second, .val (.long q9), .second, .val (.long q10), .second, .val (.long q11), .second, .val (.long q12), .second, .val (.long q13), .second, .val (.long q14), .second, .val (.long q15), .second, .val (.long q16), .second] [(.long q11), (.ref a1)])) _
    refine st183 _ ?_
    show Steps p.tables e below (T183.setTop (mkF m 62 #[.val (.ref a1), .val (.ref a2), .val (.long q3), .second, .val (.long q4), .second, .val (.long q5), .second, .val (.long q6), .second, .val (.long q7), .second, .val (.long q8), .second, .val (.long q9), .second, .val (.long q10), .second, .val (.long q11), .second, .val (.long q12), .second, .val (.long q13), .second, .val (.long q14), .second, .val (.long q15), .second, .val (.long q16), .second] [])) _
    refine XS.aloadN X183.here hx rfl (hb hby d7_62) rfl rfl ?_
    show Steps p.tables e below (T183.setTop (mkF m 63 #[.val (.ref a1), .val (.ref a2), .val (.long q3), .second, .val (.long q4), .second, .val (.long q5), .second, .val (.long q6), .second, .val (.long q7), .second, .val (.long q8), .second, .val (.long q9), .second, .val (.long q10), .second, .val (.long q11), .second, .val (.long q12), .second, .val (.long q13), .second, .val (.long q14), .second, .val (.long q15), .second, .val (.long q16), .second] [(.ref a1)])) _
    refine XS.lload X183.here hx rfl (hb hby d7_63) rfl ?_
    show Steps p.tables e below (T183.setTop (mkF m 65 #[.val (.ref a1), .val (.ref a2), .val (.long q3), .second, .val (.long q4), .second, .val (.long q5), .second, .val (.long q6), .second, .val (.long q7), .second, .val (.long q8), .second, .val (.long q9), .second, .val (.long q10), .second, .val (.long q11), .second, .val (.long q12), .second, .val (.long q13), .second, .val (.long q14), .second, .val (.long q15), .second, .val (.long q16), .second] [(.long q12), (.ref a1)])) _
    refine st203 _ ?_
    show Steps p.tables e below (T203.setTop (mkF m 68 #[.val (.ref a1), .val (.ref a2), .val (.long q3), .second, .val (.long q4), .second, .val (.long q5), .second, .val (.long q6), .second, .val (.long q7), .second, .val (.long q8), .second, .val (.long q9), .second, .val (.long q10), .second, .val (.long q11), .second, .val (.long q12), .second, .val (.long q13), .second, .val (.long q14), .second, .val (.long q15), .second, .val (.long q16), .second] [])) _
    refine XS.aloadN X203.here hx rfl (hb hby d7_68) rfl rfl ?_
    show Steps p.tables e below (T203.setTop (mkF m 69 #[.val (.ref a1), .val (.ref a2), .val (.long q3), .second, .val (.long q4), .second, .val (.long q5), .second, .val (.long q6), .second, .val (.long q7), .second, .val (.long q8), .second, .val (.long q9), .second, .val (.long q10), .second, .val (.long q11), .second, .val (.long q12), .second, .val (.long q13), .second, .val (.long q14), .second, .val (.long q15), .second, .val (.long q16), .second] [(.ref a1)])) _
    refine XS.lload X203.here hx rfl (hb hby d7_69) rfl ?_
    show Steps p.tables e below (T203.setTop (mkF m 71 #[.val (.ref a1), .val (.ref a2), .val (.long q3), .second, .val (.long q4), .second, .val (.long q5), .second, .val (.long q6), .second, .val (.long q7), .second, .val (.long q8), .second, .val (.long q9), .second, .val (.long q10), .second, .val (.long q11), .second, .val (.long q12), .second, .val (.long q13), .second, .val (.long q14), .second, .val (.long q15), .second, .val (.long q16), .second] [(.long q13), (.ref a1)])) _
    refine st223 _ ?_
    show Steps p.tables e below (T223.setTop (mkF m 74 #[.val (.ref a1), .val (.ref a2), .val (.long q3), .second, .val (.long q4), .second, .val (.long q5), .second, .val (.long q6), .second, .val (.long q7), .second, .val (.long q8), .second, .val (.long q9), .second, .val (.long q10), .second, .val (.long q11), .second, .val (.long q12), .second, .val (.long q13), .second, .val (.long q14), .second, .val (.long q15), .second, .val (.long q16), .second] [])) _
    refine XS.aloadN X223.here hx rfl (hb hby d7_74) rfl rfl ?_
    show Steps p.tables e below (T223.setTop (mkF m 75 #[.val (.ref a1), .val (.ref a2), .val (.long q3), .second, .val (.long q4), .second, .val (.long q5), .second, .val (.long q6), .second, .val (.long q7), .second, .val (.long q8), .second, .val (.long q9), .second, .val (.long q10), .second, .val (.long q11), .second, .val (.long q12), .second, .val (.long q13), .second, .val (.long q14), .second, .val (.long q15), .second, .val (.long q16), .second] [(.ref a1)])) _
    refine XS.lload X223.here hx rfl (hb hby d7_75) rfl ?_
    show Steps p.tables e below (T223.setTop (mkF m 77 #[.val (.ref a1), .val (.ref a2), .val (.long q3), .second, .val (.long q4), .second, .val (.long q5), .second, .val (.long q6), .second, .val (.long q7), .second, .val (.long q8), .second, .val (.long q9), .second, .val (.long q10), .second, .val (.long q11), .second, .val (.long q12), .second, .val (.long q13), .second, .val (.long q14), .second, .val (.long q15), .second, .val (.long q16), .second] [(.long q14), (.ref a1)])) _
    refine st243 _ ?_
    show Steps p.tables e below (T243.setTop (mkF m 80 #[.val (.ref a1), .val (.ref a2), .val (.long q3), .second, .val (.long q4), .second, .val (.long q5), .second, .val (.long q6), .second, .val (.long q7), .second, .val (.long q8), .second, .val (.long q9), .second, .val (.long q10), .second, .val (.long q11), .second, .val (.long q12), .second, .val (.long q13), .second, .val (.long q14), .second, .val (.long q15), .second, .val (.long q16), .second] [])) _
    refine XS.aloadN X243.here hx rfl (hb hby d7_80) rfl rfl ?_
    show Steps p.tables e below (T243.setTop (mkF m 81 #[.val (.ref a1), .val (.ref a2), .val (.long q3), .second, .val (.long q4), .second, .val (.long q5), .second, .val (.long q6), .second, .val (.long q7), .second, .val (.long q8), .second, .val (.long q9), .second, .val (.long q10), .second, .val (.long q11), .second, .val (.long q12), .second, .val (.long q13), .second, .val (.long q14), .second, .val (.long q15), .second, .val (.long q16), .second] [(.ref a1)])) _
    refine XS.lload X243.here hx rfl (hb hby d7_81) rfl ?_
    show Steps p.tables e below (T243.setTop (mkF m 83 #[.val (.ref a1), .val (.ref a2), .val (.long q3), .second, .val (.long q4), .second, .val (.long q5), .second, .val (.long q6), .second, .val (.long q7), .second, .val (.long q8), .second, .val (.long q9), .second, .val (.long q10), .second, .val (.long q11), .second, .val (.long q12), .second, .val (.long q13), .second, .val (.long q14), .second, .val (.long q15), .second, .val (.long q16), .second] [(.long q15), (.ref a1)])) _
    refine st263 _ ?_
    show Steps p.tables e below (T263.setTop (mkF m 86 #[.val (.ref a1), .val (.ref a2), .val (.long q3), .second, .val (.long q4), .second, .val (.long q5), .second, .val (.long q6), .second, .val (.long q7), .second, .val (.long q8), .second, .val (.long q9), .second, .val (.long q10), .second, .val (.long q11), .second, .val (.long q12), .second, .val (.long q13), .second, .val (.long q14), .second, .val (.long q15), .second, .val (.long q16), .second] [])) _
    refine XS.aloadN X263.here hx rfl (hb hby d7_86) rfl rfl ?_
    show Steps p.tables e below (T263.setTop (mkF m 87 #[.val (.ref a1), .val (.ref a2), .val (.long q3), .second, .val (.long q4), .second, .val (.long q5), .second, .val (.long q6), .second, .val (.long q7), .second, .val (.long q8), .second, .val (.long q9), .second, .val (.long q10), .second, .val (.long q11), .second, .val (.long q12), .second, .val (.long q13), .second, .val (.long q14), .second, .val (.long q15), .second, .val (.long q16), .second] [(.ref a1)])) _
    refine XS.lload X263.here hx rfl (hb hby d7_87) rfl ?_
    show Steps p.tables e below (T263.setTop (mkF m 89 #[.val (.ref a1), .val (.ref a2), .val (.long q3), .second, .val (.long q4), .second, .val (.long q5), .second, .val (.long q6), .second, .val (.long q7), .second, .val (.long q8), .second, .val (.long q9), .second, .val (.long q10), .second, .val (.long q11), .second, .val (.long q12), .second, .val (.long q13), .second, .val (.long q14), .second, .val (.long q15), .second, .val (.long q16), .second] [(.long q16), (.ref a1)])) _
    refine st283 _ ?_
    show Steps p.tables e below (T283.setTop (mkF m 92 #[.val (.ref a1), .val (.ref a2), .val (.long q3), .second, .val (.long q4), .second, .val (.long q5), .second, .val (.long q6), .second, .val (.long q7), .second, .val (.long q8), .second, .val (.long q9), .second, .val (.long q10), .second, .val (.long q11), .second, .val (.long q12), .second, .val (.long q13), .second, .val (.long q14), .second, .val (.long q15), .second, .val (.long q16), .second] [])) _
    exact X283.returnOut hx Bd.returns (hb hby d7_92) hr
  · show Qini Z a1 a2 q3 q4 q5 q6 q7 q8 q9 q10 q11 q12 q13 q14 q15 q16 u_capacity u_ceiling u_issued u_remaining u_grants u_returned u_holders u_maxPerHolder u_overCapacity u_overCeiling u_sequenceFirst u_sequenceLast u_sequenceMissing u_sequenceRepeated h0 n0 _ T283.heap _
    rw [e283]
    exact ⟨rfl, N302, K300, f284, f286, f288, f289, f294, f295, f298, f299⟩
theorem d9_0 : decode prog_2_method_3_code 0 = .ok (.aload_n 0, 1) := by decide +kernel
theorem d9_1 : decode prog_2_method_3_code 1 = .ok (.getfield 38, 3) := by decide +kernel
theorem d9_4 : decode prog_2_method_3_code 4 = .ok (.lconst 0, 1) := by decide +kernel
theorem d9_5 : decode prog_2_method_3_code 5 = .ok (.lcmp, 1) := by decide +kernel
theorem d9_6 : decode prog_2_method_3_code 6 = .ok (.ifCond .ne 51, 3) := by decide +kernel
theorem d9_9 : decode prog_2_method_3_code 9 = .ok (.aload_n 0, 1) := by decide +kernel
theorem d9_10 : decode prog_2_method_3_code 10 = .ok (.getfield 41, 3) := by decide +kernel
theorem d9_13 : decode prog_2_method_3_code 13 = .ok (.lconst 0, 1) := by decide +kernel
theorem d9_14 : decode prog_2_method_3_code 14 = .ok (.lcmp, 1) := by decide +kernel
theorem d9_15 : decode prog_2_method_3_code 15 = .ok (.ifCond .ne 42, 3) := by decide +kernel
theorem d9_18 : decode prog_2_method_3_code 18 = .ok (.aload_n 0, 1) := by decide +kernel
theorem d9_19 : decode prog_2_method_3_code 19 = .ok (.getfield 50, 3) := by decide +kernel
theorem d9_22 : decode prog_2_method_3_code 22 = .ok (.lconst 0, 1) := by decide +kernel
theorem d9_23 : decode prog_2_method_3_code 23 = .ok (.lcmp, 1) := by decide +kernel
theorem d9_24 : decode prog_2_method_3_code 24 = .ok (.ifCond .ne 33, 3) := by decide +kernel
theorem d9_27 : decode prog_2_method_3_code 27 = .ok (.aload_n 0, 1) := by decide +kernel
theorem d9_28 : decode prog_2_method_3_code 28 = .ok (.getfield 53, 3) := by decide +kernel
theorem d9_31 : decode prog_2_method_3_code 31 = .ok (.lconst 0, 1) := by decide +kernel
theorem d9_32 : decode prog_2_method_3_code 32 = .ok (.lcmp, 1) := by decide +kernel
theorem d9_33 : decode prog_2_method_3_code 33 = .ok (.ifCond .ne 24, 3) := by decide +kernel
theorem d9_36 : decode prog_2_method_3_code 36 = .ok (.aload_n 0, 1) := by decide +kernel
theorem d9_37 : decode prog_2_method_3_code 37 = .ok (.getfield 23, 3) := by decide +kernel
theorem d9_40 : decode prog_2_method_3_code 40 = .ok (.aload_n 0, 1) := by decide +kernel
theorem d9_41 : decode prog_2_method_3_code 41 = .ok (.getfield 13, 3) := by decide +kernel
theorem d9_44 : decode prog_2_method_3_code 44 = .ok (.aload_n 0, 1) := by decide +kernel
theorem d9_45 : decode prog_2_method_3_code 45 = .ok (.getfield 20, 3) := by decide +kernel
theorem d9_48 : decode prog_2_method_3_code 48 = .ok (.lsub, 1) := by decide +kernel
theorem d9_49 : decode prog_2_method_3_code 49 = .ok (.lcmp, 1) := by decide +kernel
theorem d9_50 : decode prog_2_method_3_code 50 = .ok (.ifCond .ne 7, 3) := by decide +kernel
theorem d9_53 : decode prog_2_method_3_code 53 = .ok (.iconst 1, 1) := by decide +kernel
theorem d9_54 : decode prog_2_method_3_code 54 = .ok (.goto 4, 3) := by decide +kernel
theorem d9_58 : decode prog_2_method_3_code 58 = .ok (.ireturn, 1) := by decide +kernel
theorem d9_57 : decode prog_2_method_3_code 57 = .ok (.iconst 0, 1) := by decide +kernel
theorem ef_pk (m : MethodId) (x0 : Addr) : entryFrame m #[(.ref x0)] 1 = mkF m 0 #[.val (.ref x0)] [] := by first | (simp [entryFrame, mkF, argsToLocals, Value.category]; done) | rfl
def fpk (v_capacity : Int64) (v_issued : Int64) (v_remaining : Int64) (v_overCapacity : Int64) (v_overCeiling : Int64) (v_sequenceMissing : Int64) (v_sequenceRepeated : Int64) : Int32 := if v_overCapacity = (0 : Int64) then (if v_overCeiling = (0 : Int64) then (if v_sequenceMissing = (0 : Int64) then (if v_sequenceRepeated = (0 : Int64) then (if v_remaining = (v_capacity - v_issued) then (1 : Int32) else (0 : Int32)) else (0 : Int32)) else (0 : Int32)) else (0 : Int32)) else (0 : Int32)
def Qpk (Z : State) (a1 : Addr) (v_capacity : Int64) (v_issued : Int64) (v_remaining : Int64) (v_overCapacity : Int64) (v_overCeiling : Int64) (v_sequenceMissing : Int64) (v_sequenceRepeated : Int64) (h0 : Heap) (n0 : Nat) (v : Option Value) (h : Heap) (L : List Loc) : Prop := v = some (.int (fpk v_capacity v_issued v_remaining v_overCapacity v_overCeiling v_sequenceMissing v_sequenceRepeated)) ∧ Fr n0 L ∧ h = h0
set_option maxRecDepth 65536 in
set_option maxHeartbeats 40000000 in
theorem rmpk (l : Launch) (Z : State) (a0 : Array Value) (hw : ∀ d ∈ tables_1, d.before a0 Z = true) (ws : List Jvm.Cond) (a1 : Addr) (v_capacity : Int64) (v_issued : Int64) (v_remaining : Int64) (v_overCapacity : Int64) (v_overCeiling : Int64) (v_sequenceMissing : Int64) (v_sequenceRepeated : Int64) (h0 : Heap) (n0 : Nat) (Z0 : n0 ≤ h0.size) (F_capacity_a1 : Fld Z h0 a1 "com/example/strict_quota/strictquota/Audit" "capacity" "J" (.long v_capacity)) (F_issued_a1 : Fld Z h0 a1 "com/example/strict_quota/strictquota/Audit" "issued" "J" (.long v_issued)) (F_remaining_a1 : Fld Z h0 a1 "com/example/strict_quota/strictquota/Audit" "remaining" "J" (.long v_remaining)) (F_overCapacity_a1 : Fld Z h0 a1 "com/example/strict_quota/strictquota/Audit" "overCapacity" "J" (.long v_overCapacity)) (F_overCeiling_a1 : Fld Z h0 a1 "com/example/strict_quota/strictquota/Audit" "overCeiling" "J" (.long v_overCeiling)) (F_sequenceMissing_a1 : Fld Z h0 a1 "com/example/strict_quota/strictquota/Audit" "sequenceMissing" "J" (.long v_sequenceMissing)) (F_sequenceRepeated_a1 : Fld Z h0 a1 "com/example/strict_quota/strictquota/Audit" "sequenceRepeated" "J" (.long v_sequenceRepeated)) :
    MetFree l (⟨"com/example/strict_quota/strictquota/Audit", "promisesKept", "()Z"⟩ : MethodName) (head1 (Jvm.Cond.code (⟨"com/example/strict_quota/strictquota/Audit", "promisesKept", "()Z"⟩ : MethodName) prog_2_method_3_code 1 (some .boolean) :: ws) ({ frames := 0, cells := 0, slots := 0, locals := 0 } : Room)) (fun a U => a = #[(.ref a1)] ∧ Z.Warmed39 U.vm ∧ U.heap = h0) (fun _ _ _ _ _ => True) (fun _ U o U' => ∃ v L, o = .returned v ∧ Qpk Z a1 v_capacity v_issued v_remaining v_overCapacity v_overCeiling v_sequenceMissing v_sequenceRepeated h0 n0 v U'.heap L ∧ FrameEnd U o U' L ({ frames := 0, cells := 0, slots := 0, locals := 0 } : Room).cells ({ frames := 0, cells := 0, slots := 0, locals := 0 } : Room).slots) := by
  refine MetFree.of_bodySF (plainFor_of_name pn_4) hisR ?_
  intro p e s m args below meth c s₁ Bd hml0 hP hK
  obtain ⟨rfl, hZ, hh⟩ := hP
  have hx := Bd.exec
  have hby := Bd.bytes
  have hml : c.maxLocals = 1 := hml0
  have hown : s.vm.findClass "com/example/strict_quota/strictquota/Audit" = some m.cls := findClass_of_methodNamed Bd.named
  have hnm := (name_of_methodNamed Bd.named Bd.method).1
  have X0 : Stand p l e ({ frames := 0, cells := 0, slots := 0, locals := 0 } : Room) s m #[(.ref a1)] below meth c s₁ [] 0 0 := Stand.of_body Bd
  have e0 : s₁.heap = h0 := by rw [← hh, Bd.state]; rfl
  have N0 := Fr.nil n0
  have pre0 : ∀ t, Steps p.tables e below (s₁.setTop (mkF m 0 #[.val (.ref a1)] [])) t → Steps p.tables e below (s₁.setTop (entryFrame m #[(.ref a1)] 1)) t := fun t k => castTop (ef_pk m a1) k
  obtain ⟨T1, X1, e1, st1⟩ := getF X0 hx hZ hown (host := "") (Or.inl (hw _ (List.mem_of_getElem? (i := 61) rfl))) Via.refl e0 F_overCapacity_a1 (g := (mkF m 1 #[.val (.ref a1)] [(.ref a1)])) rfl rfl (hb hby d9_1)
  have pre2 : ∀ t, Steps p.tables e below (T1.setTop (mkF m 6 #[.val (.ref a1)] [(.int (lcmpW v_overCapacity (0 : Int64)))])) t → Steps p.tables e below (s₁.setTop (entryFrame m #[(.ref a1)] 1)) t := fun t k => pre0 t (by
    show Steps p.tables e below (s₁.setTop (mkF m 0 #[.val (.ref a1)] [])) _
    refine XS.aloadN X0.here hx rfl (hb hby d9_0) rfl rfl ?_
    show Steps p.tables e below (s₁.setTop (mkF m 1 #[.val (.ref a1)] [(.ref a1)])) _
    refine st1 _ ?_
    show Steps p.tables e below (T1.setTop (mkF m 4 #[.val (.ref a1)] [(.long v_overCapacity)])) _
    refine XS.lconst X1.here hx rfl (hb hby d9_4) ?_
    show Steps p.tables e below (T1.setTop (mkF m 5 #[.val (.ref a1)] [(.long (0 : Int64)), (.long v_overCapacity)])) _
    refine XS.lcmp X1.here hx rfl (hb hby d9_5) rfl ?_
    exact k)
  by_cases hc3 : v_overCapacity = (0 : Int64)
  ·  -- pc 6: v_overCapacity = (0 : Int64)
    obtain ⟨T4, X4, e4, st4⟩ := getF X1 hx hZ hown (host := "") (Or.inl (hw _ (List.mem_of_getElem? (i := 63) rfl))) Via.refl e1 F_overCeiling_a1 (g := (mkF m 10 #[.val (.ref a1)] [(.ref a1)])) rfl rfl (hb hby d9_10)
    have pre5 : ∀ t, Steps p.tables e below (T4.setTop (mkF m 15 #[.val (.ref a1)] [(.int (lcmpW v_overCeiling (0 : Int64)))])) t → Steps p.tables e below (s₁.setTop (entryFrame m #[(.ref a1)] 1)) t := fun t k => pre2 t (by
      show Steps p.tables e below (T1.setTop (mkF m 6 #[.val (.ref a1)] [(.int (lcmpW v_overCapacity (0 : Int64)))])) _
      refine XS.ifNo X1.here hx rfl (hb hby d9_6) rfl ((if0 _ _).trans (teq ((lw_eq _ _).mpr hc3)).2) ?_
      show Steps p.tables e below (T1.setTop (mkF m 9 #[.val (.ref a1)] [])) _
      refine XS.aloadN X1.here hx rfl (hb hby d9_9) rfl rfl ?_
      show Steps p.tables e below (T1.setTop (mkF m 10 #[.val (.ref a1)] [(.ref a1)])) _
      refine st4 _ ?_
      show Steps p.tables e below (T4.setTop (mkF m 13 #[.val (.ref a1)] [(.long v_overCeiling)])) _
      refine XS.lconst X4.here hx rfl (hb hby d9_13) ?_
      show Steps p.tables e below (T4.setTop (mkF m 14 #[.val (.ref a1)] [(.long (0 : Int64)), (.long v_overCeiling)])) _
      refine XS.lcmp X4.here hx rfl (hb hby d9_14) rfl ?_
      exact k)
    by_cases hc6 : v_overCeiling = (0 : Int64)
    ·  -- pc 15: v_overCeiling = (0 : Int64)
      obtain ⟨T7, X7, e7, st7⟩ := getF X4 hx hZ hown (host := "") (Or.inl (hw _ (List.mem_of_getElem? (i := 69) rfl))) Via.refl e4 F_sequenceMissing_a1 (g := (mkF m 19 #[.val (.ref a1)] [(.ref a1)])) rfl rfl (hb hby d9_19)
      have pre8 : ∀ t, Steps p.tables e below (T7.setTop (mkF m 24 #[.val (.ref a1)] [(.int (lcmpW v_sequenceMissing (0 : Int64)))])) t → Steps p.tables e below (s₁.setTop (entryFrame m #[(.ref a1)] 1)) t := fun t k => pre5 t (by
        show Steps p.tables e below (T4.setTop (mkF m 15 #[.val (.ref a1)] [(.int (lcmpW v_overCeiling (0 : Int64)))])) _
        refine XS.ifNo X4.here hx rfl (hb hby d9_15) rfl ((if0 _ _).trans (teq ((lw_eq _ _).mpr hc6)).2) ?_
        show Steps p.tables e below (T4.setTop (mkF m 18 #[.val (.ref a1)] [])) _
        refine XS.aloadN X4.here hx rfl (hb hby d9_18) rfl rfl ?_
        show Steps p.tables e below (T4.setTop (mkF m 19 #[.val (.ref a1)] [(.ref a1)])) _
        refine st7 _ ?_
        show Steps p.tables e below (T7.setTop (mkF m 22 #[.val (.ref a1)] [(.long v_sequenceMissing)])) _
        refine XS.lconst X7.here hx rfl (hb hby d9_22) ?_
        show Steps p.tables e below (T7.setTop (mkF m 23 #[.val (.ref a1)] [(.long (0 : Int64)), (.long v_sequenceMissing)])) _
        refine XS.lcmp X7.here hx rfl (hb hby d9_23) rfl ?_
        exact k)
      by_cases hc9 : v_sequenceMissing = (0 : Int64)
      ·  -- pc 24: v_sequenceMissing = (0 : Int64)
        obtain ⟨T10, X10, e10, st10⟩ := getF X7 hx hZ hown (host := "") (Or.inl (hw _ (List.mem_of_getElem? (i := 71) rfl))) Via.refl e7 F_sequenceRepeated_a1 (g := (mkF m 28 #[.val (.ref a1)] [(.ref a1)])) rfl rfl (hb hby d9_28)
        have pre11 : ∀ t, Steps p.tables e below (T10.setTop (mkF m 33 #[.val (.ref a1)] [(.int (lcmpW v_sequenceRepeated (0 : Int64)))])) t → Steps p.tables e below (s₁.setTop (entryFrame m #[(.ref a1)] 1)) t := fun t k => pre8 t (by
          show Steps p.tables e below (T7.setTop (mkF m 24 #[.val (.ref a1)] [(.int (lcmpW v_sequenceMissing (0 : Int64)))])) _
          refine XS.ifNo X7.here hx rfl (hb hby d9_24) rfl ((if0 _ _).trans (teq ((lw_eq _ _).mpr hc9)).2) ?_
          show Steps p.tables e below (T7.setTop (mkF m 27 #[.val (.ref a1)] [])) _
          refine XS.aloadN X7.here hx rfl (hb hby d9_27) rfl rfl ?_
          show Steps p.tables e below (T7.setTop (mkF m 28 #[.val (.ref a1)] [(.ref a1)])) _
          refine st10 _ ?_
          show Steps p.tables e below (T10.setTop (mkF m 31 #[.val (.ref a1)] [(.long v_sequenceRepeated)])) _
          refine XS.lconst X10.here hx rfl (hb hby d9_31) ?_
          show Steps p.tables e below (T10.setTop (mkF m 32 #[.val (.ref a1)] [(.long (0 : Int64)), (.long v_sequenceRepeated)])) _
          refine XS.lcmp X10.here hx rfl (hb hby d9_32) rfl ?_
          exact k)
        by_cases hc12 : v_sequenceRepeated = (0 : Int64)
        ·  -- pc 33: v_sequenceRepeated = (0 : Int64)
          obtain ⟨T13, X13, e13, st13⟩ := getF X10 hx hZ hown (host := "") (Or.inl (hw _ (List.mem_of_getElem? (i := 51) rfl))) Via.refl e10 F_remaining_a1 (g := (mkF m 37 #[.val (.ref a1)] [(.ref a1)])) rfl rfl (hb hby d9_37)
          obtain ⟨T14, X14, e14, st14⟩ := getF X13 hx hZ hown (host := "") (Or.inl (hw _ (List.mem_of_getElem? (i := 45) rfl))) Via.refl e13 F_capacity_a1 (g := (mkF m 41 #[.val (.ref a1)] [(.ref a1), (.long v_remaining)])) rfl rfl (hb hby d9_41)
          obtain ⟨T15, X15, e15, st15⟩ := getF X14 hx hZ hown (host := "") (Or.inl (hw _ (List.mem_of_getElem? (i := 49) rfl))) Via.refl e14 F_issued_a1 (g := (mkF m 45 #[.val (.ref a1)] [(.ref a1), (.long v_capacity), (.long v_remaining)])) rfl rfl (hb hby d9_45)
          have pre16 : ∀ t, Steps p.tables e below (T15.setTop (mkF m 50 #[.val (.ref a1)] [(.int (lcmpW v_remaining (v_capacity - v_issued)))])) t → Steps p.tables e below (s₁.setTop (entryFrame m #[(.ref a1)] 1)) t := fun t k => pre11 t (by
            show Steps p.tables e below (T10.setTop (mkF m 33 #[.val (.ref a1)] [(.int (lcmpW v_sequenceRepeated (0 : Int64)))])) _
            refine XS.ifNo X10.here hx rfl (hb hby d9_33) rfl ((if0 _ _).trans (teq ((lw_eq _ _).mpr hc12)).2) ?_
            show Steps p.tables e below (T10.setTop (mkF m 36 #[.val (.ref a1)] [])) _
            refine XS.aloadN X10.here hx rfl (hb hby d9_36) rfl rfl ?_
            show Steps p.tables e below (T10.setTop (mkF m 37 #[.val (.ref a1)] [(.ref a1)])) _
            refine st13 _ ?_
            show Steps p.tables e below (T13.setTop (mkF m 40 #[.val (.ref a1)] [(.long v_remaining)])) _
            refine XS.aloadN X13.here hx rfl (hb hby d9_40) rfl rfl ?_
            show Steps p.tables e below (T13.setTop (mkF m 41 #[.val (.ref a1)] [(.ref a1), (.long v_remaining)])) _
            refine st14 _ ?_
            show Steps p.tables e below (T14.setTop (mkF m 44 #[.val (.ref a1)] [(.long v_capacity), (.long v_remaining)])) _
            refine XS.aloadN X14.here hx rfl (hb hby d9_44) rfl rfl ?_
            show Steps p.tables e below (T14.setTop (mkF m 45 #[.val (.ref a1)] [(.ref a1), (.long v_capacity), (.long v_remaining)])) _
            refine st15 _ ?_
            show Steps p.tables e below (T15.setTop (mkF m 48 #[.val (.ref a1)] [(.long v_issued), (.long v_capacity), (.long v_remaining)])) _
            refine XS.lsub X15.here hx rfl (hb hby d9_48) rfl ?_
            show Steps p.tables e below (T15.setTop (mkF m 49 #[.val (.ref a1)] [(.long (v_capacity - v_issued)), (.long v_remaining)])) _
            refine XS.lcmp X15.here hx rfl (hb hby d9_49) rfl ?_
            exact k)
          by_cases hc17 : v_remaining = (v_capacity - v_issued)
          ·  -- pc 50: v_remaining = (v_capacity - v_issued)
            obtain ⟨fs, hr, hrun, hended, hW, hsame⟩ := X15.leave (v := some (.int (1 : Int32))) (fun h => by rw [Bd.returns] at h; cases h) Bd.notSynchronized
            refine ⟨_, _, pre16 _ ?_, hrun, hended, _, _, rfl, ?_, ⟨_, rfl⟩, hW, hsame.mono (by decide) (by decide)⟩
            · show Steps p.tables e below (T15.setTop (mkF m 50 #[.val (.ref a1)] [(.int (lcmpW v_remaining (v_capacity - v_issued)))])) _
              refine XS.ifNo X15.here hx rfl (hb hby d9_50) rfl ((if0 _ _).trans (teq ((lw_eq _ _).mpr hc17)).2) ?_
              show Steps p.tables e below (T15.setTop (mkF m 53 #[.val (.ref a1)] [])) _
              refine XS.iconst X15.here hx rfl (hb hby d9_53) ?_
              show Steps p.tables e below (T15.setTop (mkF m 54 #[.val (.ref a1)] [(.int (1 : Int32))])) _
              refine XS.goto X15.here hx rfl (pc0 := 54) (pc' := 58) rfl (hb hby d9_54) (by decide) (by decide) ?_
              show Steps p.tables e below (T15.setTop (mkF m 58 #[.val (.ref a1)] [(.int (1 : Int32))])) _
              exact retN X15 hx (t := .boolean) Bd.returns (by simp) (hb hby d9_58) hr
            · show Qpk Z a1 v_capacity v_issued v_remaining v_overCapacity v_overCeiling v_sequenceMissing v_sequenceRepeated h0 n0 _ T15.heap _
              rw [e15]
              exact ⟨(by unfold fpk; rw [if_pos hc3, if_pos hc6, if_pos hc9, if_pos hc12, if_pos hc17]), N0, rfl⟩
          ·  -- pc 50: not v_remaining = (v_capacity - v_issued)
            obtain ⟨fs, hr, hrun, hended, hW, hsame⟩ := X15.leave (v := some (.int (0 : Int32))) (fun h => by rw [Bd.returns] at h; cases h) Bd.notSynchronized
            refine ⟨_, _, pre16 _ ?_, hrun, hended, _, _, rfl, ?_, ⟨_, rfl⟩, hW, hsame.mono (by decide) (by decide)⟩
            · show Steps p.tables e below (T15.setTop (mkF m 50 #[.val (.ref a1)] [(.int (lcmpW v_remaining (v_capacity - v_issued)))])) _
              refine XS.ifYes X15.here hx rfl (pc0 := 50) (pc' := 57) rfl (hb hby d9_50) rfl ((if0 _ _).trans (feq (mt (lw_eq _ _).mp hc17)).2) (by decide) (by decide) ?_
              show Steps p.tables e below (T15.setTop (mkF m 57 #[.val (.ref a1)] [])) _
              refine XS.iconst X15.here hx rfl (hb hby d9_57) ?_
              show Steps p.tables e below (T15.setTop (mkF m 58 #[.val (.ref a1)] [(.int (0 : Int32))])) _
              exact retN X15 hx (t := .boolean) Bd.returns (by simp) (hb hby d9_58) hr
            · show Qpk Z a1 v_capacity v_issued v_remaining v_overCapacity v_overCeiling v_sequenceMissing v_sequenceRepeated h0 n0 _ T15.heap _
              rw [e15]
              exact ⟨(by unfold fpk; rw [if_pos hc3, if_pos hc6, if_pos hc9, if_pos hc12, if_neg hc17]), N0, rfl⟩
        ·  -- pc 33: not v_sequenceRepeated = (0 : Int64)
          obtain ⟨fs, hr, hrun, hended, hW, hsame⟩ := X10.leave (v := some (.int (0 : Int32))) (fun h => by rw [Bd.returns] at h; cases h) Bd.notSynchronized
          refine ⟨_, _, pre11 _ ?_, hrun, hended, _, _, rfl, ?_, ⟨_, rfl⟩, hW, hsame.mono (by decide) (by decide)⟩
          · show Steps p.tables e below (T10.setTop (mkF m 33 #[.val (.ref a1)] [(.int (lcmpW v_sequenceRepeated (0 : Int64)))])) _
            refine XS.ifYes X10.here hx rfl (pc0 := 33) (pc' := 57) rfl (hb hby d9_33) rfl ((if0 _ _).trans (feq (mt (lw_eq _ _).mp hc12)).2) (by decide) (by decide) ?_
            show Steps p.tables e below (T10.setTop (mkF m 57 #[.val (.ref a1)] [])) _
            refine XS.iconst X10.here hx rfl (hb hby d9_57) ?_
            show Steps p.tables e below (T10.setTop (mkF m 58 #[.val (.ref a1)] [(.int (0 : Int32))])) _
            exact retN X10 hx (t := .boolean) Bd.returns (by simp) (hb hby d9_58) hr
          · show Qpk Z a1 v_capacity v_issued v_remaining v_overCapacity v_overCeiling v_sequenceMissing v_sequenceRepeated h0 n0 _ T10.heap _
            rw [e10]
            exact ⟨(by unfold fpk; rw [if_pos hc3, if_pos hc6, if_pos hc9, if_neg hc12]), N0, rfl⟩
      ·  -- pc 24: not v_sequenceMissing = (0 : Int64)
        obtain ⟨fs, hr, hrun, hended, hW, hsame⟩ := X7.leave (v := some (.int (0 : Int32))) (fun h => by rw [Bd.returns] at h; cases h) Bd.notSynchronized
        refine ⟨_, _, pre8 _ ?_, hrun, hended, _, _, rfl, ?_, ⟨_, rfl⟩, hW, hsame.mono (by decide) (by decide)⟩
        · show Steps p.tables e below (T7.setTop (mkF m 24 #[.val (.ref a1)] [(.int (lcmpW v_sequenceMissing (0 : Int64)))])) _
          refine XS.ifYes X7.here hx rfl (pc0 := 24) (pc' := 57) rfl (hb hby d9_24) rfl ((if0 _ _).trans (feq (mt (lw_eq _ _).mp hc9)).2) (by decide) (by decide) ?_
          show Steps p.tables e below (T7.setTop (mkF m 57 #[.val (.ref a1)] [])) _
          refine XS.iconst X7.here hx rfl (hb hby d9_57) ?_
          show Steps p.tables e below (T7.setTop (mkF m 58 #[.val (.ref a1)] [(.int (0 : Int32))])) _
          exact retN X7 hx (t := .boolean) Bd.returns (by simp) (hb hby d9_58) hr
        · show Qpk Z a1 v_capacity v_issued v_remaining v_overCapacity v_overCeiling v_sequenceMissing v_sequenceRepeated h0 n0 _ T7.heap _
          rw [e7]
          exact ⟨(by unfold fpk; rw [if_pos hc3, if_pos hc6, if_neg hc9]), N0, rfl⟩
    ·  -- pc 15: not v_overCeiling = (0 : Int64)
      obtain ⟨fs, hr, hrun, hended, hW, hsame⟩ := X4.leave (v := some (.int (0 : Int32))) (fun h => by rw [Bd.returns] at h; cases h) Bd.notSynchronized
      refine ⟨_, _, pre5 _ ?_, hrun, hended, _, _, rfl, ?_, ⟨_, rfl⟩, hW, hsame.mono (by decide) (by decide)⟩
      · show Steps p.tables e below (T4.setTop (mkF m 15 #[.val (.ref a1)] [(.int (lcmpW v_overCeiling (0 : Int64)))])) _
        refine XS.ifYes X4.here hx rfl (pc0 := 15) (pc' := 57) rfl (hb hby d9_15) rfl ((if0 _ _).trans (feq (mt (lw_eq _ _).mp hc6)).2) (by decide) (by decide) ?_
        show Steps p.tables e below (T4.setTop (mkF m 57 #[.val (.ref a1)] [])) _
        refine XS.iconst X4.here hx rfl (hb hby d9_57) ?_
        show Steps p.tables e below (T4.setTop (mkF m 58 #[.val (.ref a1)] [(.int (0 : Int32))])) _
        exact retN X4 hx (t := .boolean) Bd.returns (by simp) (hb hby d9_58) hr
      · show Qpk Z a1 v_capacity v_issued v_remaining v_overCapacity v_overCeiling v_sequenceMissing v_sequenceRepeated h0 n0 _ T4.heap _
        rw [e4]
        exact ⟨(by unfold fpk; rw [if_pos hc3, if_neg hc6]), N0, rfl⟩
  ·  -- pc 6: not v_overCapacity = (0 : Int64)
    obtain ⟨fs, hr, hrun, hended, hW, hsame⟩ := X1.leave (v := some (.int (0 : Int32))) (fun h => by rw [Bd.returns] at h; cases h) Bd.notSynchronized
    refine ⟨_, _, pre2 _ ?_, hrun, hended, _, _, rfl, ?_, ⟨_, rfl⟩, hW, hsame.mono (by decide) (by decide)⟩
    · show Steps p.tables e below (T1.setTop (mkF m 6 #[.val (.ref a1)] [(.int (lcmpW v_overCapacity (0 : Int64)))])) _
      refine XS.ifYes X1.here hx rfl (pc0 := 6) (pc' := 57) rfl (hb hby d9_6) rfl ((if0 _ _).trans (feq (mt (lw_eq _ _).mp hc3)).2) (by decide) (by decide) ?_
      show Steps p.tables e below (T1.setTop (mkF m 57 #[.val (.ref a1)] [])) _
      refine XS.iconst X1.here hx rfl (hb hby d9_57) ?_
      show Steps p.tables e below (T1.setTop (mkF m 58 #[.val (.ref a1)] [(.int (0 : Int32))])) _
      exact retN X1 hx (t := .boolean) Bd.returns (by simp) (hb hby d9_58) hr
    · show Qpk Z a1 v_capacity v_issued v_remaining v_overCapacity v_overCeiling v_sequenceMissing v_sequenceRepeated h0 n0 _ T1.heap _
      rw [e1]
      exact ⟨(by unfold fpk; rw [if_neg hc3]), N0, rfl⟩
theorem own_l8 (q : Int64) : ∀ c ∈ ([(nar .char (((q &&& (255 : Int64)).toInt32).toUInt32.toUInt16.toUInt32.toInt32))] : List Int32), ¬ c < 0 ∧ ¬ (255 : Int32) < c := by
  intro c hc
  obtain rfl := List.mem_singleton.mp hc
  have e1 := c_maskL q (255 : Int64) 8 (by decide) (by decide)
  have e2 := c_l2i (q &&& (255 : Int64))
  have e3 := rng32 ((q &&& (255 : Int64)).toInt32)
  have e4 : ((q &&& (255 : Int64)).toInt32).toInt = (q &&& (255 : Int64)).toInt := by omega
  generalize (q &&& (255 : Int64)).toInt32 = w at *
  have e5 := c_i2c w
  have e6 := c_i2c (w.toUInt32.toUInt16.toUInt32.toInt32)
  have e7 : nar .char (w.toUInt32.toUInt16.toUInt32.toInt32) = (w.toUInt32.toUInt16.toUInt32.toInt32).toUInt32.toUInt16.toUInt32.toInt32 := rfl
  rw [e7]
  simp only [Int32.lt_iff_toInt_lt, show (0 : Int32).toInt = 0 from by decide, show (255 : Int32).toInt = 255 from by decide]
  omega
theorem own_v (x : Int32) : ∃ n : Fin 32, x &&& (31 : Int32) = Int32.ofNat n.val := by
  have e := c_mask x (31 : Int32) 5 (by decide) (by decide)
  generalize x &&& (31 : Int32) = v at *
  have h0 : 0 ≤ v.toInt := by omega
  have h1 : v.toInt < 32 := by omega
  refine ⟨⟨v.toInt.toNat, by omega⟩, ?_⟩
  rw [← Int32.toInt_inj]
  show v.toInt = (Int32.ofNat v.toInt.toNat).toInt
  rw [Int32.toInt_ofNat_of_lt (by omega)]
  omega
theorem own_bits (x : Int32) : (x &&& (31 : Int32)) = (0 : Int32) ↔ ((x &&& (1 : Int32)) = (0 : Int32) ∧ (x &&& (2 : Int32)) = (0 : Int32) ∧ (x &&& (4 : Int32)) = (0 : Int32) ∧ (x &&& (8 : Int32)) = (0 : Int32) ∧ (x &&& (16 : Int32)) = (0 : Int32)) := by
  obtain ⟨n, hn⟩ := own_v x
  have k : ∀ k : Int32, (31 : Int32) &&& k = k → x &&& k = (x &&& (31 : Int32)) &&& k := fun k h => by rw [Int32.and_assoc, h]
  rw [k 1 (by decide), k 2 (by decide), k 4 (by decide), k 8 (by decide), k 16 (by decide), hn]
  clear hn k
  revert n
  decide
theorem own_sum (a d : Int64) (h : ¬ (d = (0 : Int64))) : ¬ ((a + d) = a) := by
  intro q
  apply h
  rw [← Int64.toInt_inj] at q ⊢
  have e1 := c_ladd a d
  have e2 := rng64 d
  have e0 : (0 : Int64).toInt = 0 := by decide
  omega
theorem own_pk (x : Int32) (o1 o2 o4 o8 rem a b : Int64) (h1 : (o1 = (0 : Int64)) ↔ ((x &&& (1 : Int32)) = (0 : Int32))) (h2 : (o2 = (0 : Int64)) ↔ ((x &&& (2 : Int32)) = (0 : Int32))) (h4 : (o4 = (0 : Int64)) ↔ ((x &&& (4 : Int32)) = (0 : Int32))) (h8 : (o8 = (0 : Int64)) ↔ ((x &&& (8 : Int32)) = (0 : Int32))) (hr : (rem = (a - b)) ↔ ((x &&& (16 : Int32)) = (0 : Int32))) :
    ((x &&& (31 : Int32)) = (0 : Int32) → fpk a b rem o1 o2 o4 o8 = 1) ∧ (¬ ((x &&& (31 : Int32)) = (0 : Int32)) → fpk a b rem o1 o2 o4 o8 = 0) := by
  have hb := own_bits x
  unfold fpk
  constructor
  · intro q
    obtain ⟨k1, k2, k4, k8, k16⟩ := hb.mp q
    rw [if_pos (h1.mpr k1), if_pos (h2.mpr k2), if_pos (h4.mpr k4), if_pos (h8.mpr k8), if_pos (hr.mpr k16)]
  · intro q
    repeat' split
    all_goals first | rfl | (exfalso; apply q; rw [hb]; refine ⟨h1.mp ?_, h2.mp ?_, h4.mp ?_, h8.mp ?_, hr.mp ?_⟩ <;> assumption)
theorem pn_87 : plainName "com/example/strict_quota/strictquota/AuditPromisesKeptPinLaw" = true := by first | (simp [plainName, overriddenIn]; done) | decide +kernel
theorem pd_88 : parseMethodDescriptor "([C)V" = some ⟨[(.array .char)], none⟩ := by decide +kernel
theorem pd_89 : parseMethodDescriptor "(Ljava/lang/String;JJJJJJJJJJJJJJ)V" = some ⟨[(.object "java/lang/String"), .long, .long, .long, .long, .long, .long, .long, .long, .long, .long, .long, .long, .long, .long], none⟩ := by decide +kernel
theorem pd_90 : parseMethodDescriptor "()Z" = some ⟨[], some .boolean⟩ := by decide +kernel
theorem ef_0 (m : MethodId) (x0 : Int64) (x1 : Int64) (x2 : Int64) (x3 : Int32) (x4 : Int64) (x5 : Int64) : entryFrame m #[(.long x0), (.long x1), (.long x2), (.int x3), (.long x4), (.long x5)] maxLocals = mkF m 0 #[.val (.long x0), .second, .val (.long x1), .second, .val (.long x2), .second, .val (.int x3), .val (.long x4), .second, .val (.long x5), .second, .unset, .unset, .unset, .unset, .unset, .unset, .unset, .unset, .unset, .unset, .unset, .unset, .unset, .unset, .unset, .unset, .unset, .unset, .unset, .unset] [] := by first | (simp [entryFrame, mkF, argsToLocals, Value.category, maxLocals]; done) | rfl
def Q0 (Z : State) (q1 : Int64) (q2 : Int64) (q3 : Int64) (p4 : Int32) (q5 : Int64) (q6 : Int64) (cz : Int32) (h0 : Heap) (n0 : Nat) (v : Option Value) (h : Heap) (L : List Loc) : Prop := v = some (.int (1 : Int32)) ∧ Fr n0 L
set_option maxRecDepth 65536 in
set_option maxHeartbeats 40000000 in
theorem rm0 (l : Launch) (Z : State) (a0 : Array Value) (hw : ∀ d ∈ tables_1, d.before a0 Z = true) (ws : List Jvm.Cond) (q1 : Int64) (q2 : Int64) (q3 : Int64) (p4 : Int32) (q5 : Int64) (q6 : Int64) (cz : Int32) (h0 : Heap) (n0 : Nat) (Z0 : n0 ≤ h0.size) (O0 : Old Z n0 h0) (S_COMPACT_STRINGS : Sta Z Z.heap "java/lang/String" "COMPACT_STRINGS" "Z" (.int cz)) (hcz : ¬ (cz = (0 : Int32))) :
    MetFree l x (head1 (Jvm.Cond.code x code maxLocals ret :: ws) room_1) (fun a U => a = #[(.long q1), (.long q2), (.long q3), (.int p4), (.long q5), (.long q6)] ∧ Z.Warmed39 U.vm ∧ U.heap = h0) (fun _ _ _ _ _ => True) (fun _ U o U' => ∃ v L, o = .returned v ∧ Q0 Z q1 q2 q3 p4 q5 q6 cz h0 n0 v U'.heap L ∧ FrameEnd U o U' L room_1.cells room_1.slots) := by
  refine MetFree.of_bodySF (plainFor_of_name pn_87) hisR ?_
  intro p e s m args below meth c s₁ Bd hml0 hP hK
  obtain ⟨rfl, hZ, hh⟩ := hP
  have hx := Bd.exec
  have hby := Bd.bytes
  have hml : c.maxLocals = 31 := hml0
  have hown : s.vm.findClass "com/example/strict_quota/strictquota/AuditPromisesKeptPinLaw" = some m.cls := findClass_of_methodNamed Bd.named
  have hnm := (name_of_methodNamed Bd.named Bd.method).1
  have X0 : Stand p l e room_1 s m #[(.long q1), (.long q2), (.long q3), (.int p4), (.long q5), (.long q6)] below meth c s₁ [] 0 0 := Stand.of_body Bd
  have e0 : s₁.heap = h0 := by rw [← hh, Bd.state]; rfl
  have N0 := Fr.nil n0
  have pre0 : ∀ t, Steps p.tables e below (s₁.setTop (mkF m 0 #[.val (.long q1), .second, .val (.long q2), .second, .val (.long q3), .second, .val (.int p4), .val (.long q5), .second, .val (.long q6), .second, .unset, .unset, .unset, .unset, .unset, .unset, .unset, .unset, .unset, .unset, .unset, .unset, .unset, .unset, .unset, .unset, .unset, .unset, .unset, .unset] [])) t → Steps p.tables e below (s₁.setTop (entryFrame m #[(.long q1), (.long q2), (.long q3), (.int p4), (.long q5), (.long q6)] maxLocals)) t := fun t k => castTop (ef_0 m q1 q2 q3 p4 q5 q6) k
  have pre1 : ∀ t, Steps p.tables e below (s₁.setTop (mkF m 4 #[.val (.long q1), .second, .val (.long q2), .second, .val (.long q3), .second, .val (.int p4), .val (.long q5), .second, .val (.long q6), .second, .unset, .unset, .unset, .unset, .unset, .unset, .unset, .unset, .unset, .unset, .unset, .unset, .unset, .unset, .unset, .unset, .unset, .unset, .unset, .unset] [(.int (lcmpW q3 (0 : Int64)))])) t → Steps p.tables e below (s₁.setTop (entryFrame m #[(.long q1), (.long q2), (.long q3), (.int p4), (.long q5), (.long q6)] maxLocals)) t := fun t k => pre0 t (by
    show Steps p.tables e below (s₁.setTop (mkF m 0 #[.val (.long q1), .second, .val (.long q2), .second, .val (.long q3), .second, .val (.int p4), .val (.long q5), .second, .val (.long q6), .second, .unset, .unset, .unset, .unset, .unset, .unset, .unset, .unset, .unset, .unset, .unset, .unset, .unset, .unset, .unset, .unset, .unset, .unset, .unset, .unset] [])) _
    refine XS.lload X0.here hx rfl (hb hby at_0) rfl ?_
    show Steps p.tables e below (s₁.setTop (mkF m 2 #[.val (.long q1), .second, .val (.long q2), .second, .val (.long q3), .second, .val (.int p4), .val (.long q5), .second, .val (.long q6), .second, .unset, .unset, .unset, .unset, .unset, .unset, .unset, .unset, .unset, .unset, .unset, .unset, .unset, .unset, .unset, .unset, .unset, .unset, .unset, .unset] [(.long q3)])) _
    refine XS.lconst X0.here hx rfl (hb hby at_2) ?_
    show Steps p.tables e below (s₁.setTop (mkF m 3 #[.val (.long q1), .second, .val (.long q2), .second, .val (.long q3), .second, .val (.int p4), .val (.long q5), .second, .val (.long q6), .second, .unset, .unset, .unset, .unset, .unset, .unset, .unset, .unset, .unset, .unset, .unset, .unset, .unset, .unset, .unset, .unset, .unset, .unset, .unset, .unset] [(.long (0 : Int64)), (.long q3)])) _
    refine XS.lcmp X0.here hx rfl (hb hby at_3) rfl ?_
    exact k)
  refine cps (A := ∃ (dd : Int64) (lcj2 : List Loc) (Tj2 : State), (¬ (dd = (0 : Int64))) ∧ Fr n0 lcj2 ∧ Stand p l e room_1 s m #[(.long q1), (.long q2), (.long q3), (.int p4), (.long q5), (.long q6)] below meth c Tj2 lcj2 0 0 ∧ Tj2.heap = h0 ∧ (∀ t, Steps p.tables e below (Tj2.setTop (mkF m 15 #[.val (.long q1), .second, .val (.long q2), .second, .val (.long q3), .second, .val (.int p4), .val (.long q5), .second, .val (.long q6), .second, .val (.long dd), .second, .unset, .unset, .unset, .unset, .unset, .unset, .unset, .unset, .unset, .unset, .unset, .unset, .unset, .unset, .unset, .unset, .unset, .unset] [])) t → Steps p.tables e below (s₁.setTop (entryFrame m #[(.long q1), (.long q2), (.long q3), (.int p4), (.long q5), (.long q6)] maxLocals)) t)) (fun kj => ?_) ?_
  ·  -- to the meeting at pc 15
    by_cases hc3 : q3 = (0 : Int64)
    ·  -- pc 4: q3 = (0 : Int64)
      have pre4 : ∀ t, Steps p.tables e below (s₁.setTop (mkF m 15 #[.val (.long q1), .second, .val (.long q2), .second, .val (.long q3), .second, .val (.int p4), .val (.long q5), .second, .val (.long q6), .second, .val (.long (1 : Int64)), .second, .unset, .unset, .unset, .unset, .unset, .unset, .unset, .unset, .unset, .unset, .unset, .unset, .unset, .unset, .unset, .unset, .unset, .unset] [])) t → Steps p.tables e below (s₁.setTop (entryFrame m #[(.long q1), (.long q2), (.long q3), (.int p4), (.long q5), (.long q6)] maxLocals)) t := fun t k => pre1 t (by
        show Steps p.tables e below (s₁.setTop (mkF m 4 #[.val (.long q1), .second, .val (.long q2), .second, .val (.long q3), .second, .val (.int p4), .val (.long q5), .second, .val (.long q6), .second, .unset, .unset, .unset, .unset, .unset, .unset, .unset, .unset, .unset, .unset, .unset, .unset, .unset, .unset, .unset, .unset, .unset, .unset, .unset, .unset] [(.int (lcmpW q3 (0 : Int64)))])) _
        refine XS.ifNo X0.here hx rfl (hb hby at_4) rfl ((if0 _ _).trans (teq ((lw_eq _ _).mpr hc3)).2) ?_
        show Steps p.tables e below (s₁.setTop (mkF m 7 #[.val (.long q1), .second, .val (.long q2), .second, .val (.long q3), .second, .val (.int p4), .val (.long q5), .second, .val (.long q6), .second, .unset, .unset, .unset, .unset, .unset, .unset, .unset, .unset, .unset, .unset, .unset, .unset, .unset, .unset, .unset, .unset, .unset, .unset, .unset, .unset] [])) _
        refine XS.lconst X0.here hx rfl (hb hby at_7) ?_
        show Steps p.tables e below (s₁.setTop (mkF m 8 #[.val (.long q1), .second, .val (.long q2), .second, .val (.long q3), .second, .val (.int p4), .val (.long q5), .second, .val (.long q6), .second, .unset, .unset, .unset, .unset, .unset, .unset, .unset, .unset, .unset, .unset, .unset, .unset, .unset, .unset, .unset, .unset, .unset, .unset, .unset, .unset] [(.long (1 : Int64))])) _
        refine XS.goto X0.here hx rfl (pc0 := 8) (pc' := 13) rfl (hb hby at_8) (by decide) (by decide) ?_
        show Steps p.tables e below (s₁.setTop (mkF m 13 #[.val (.long q1), .second, .val (.long q2), .second, .val (.long q3), .second, .val (.int p4), .val (.long q5), .second, .val (.long q6), .second, .unset, .unset, .unset, .unset, .unset, .unset, .unset, .unset, .unset, .unset, .unset, .unset, .unset, .unset, .unset, .unset, .unset, .unset, .unset, .unset] [(.long (1 : Int64))])) _
        refine XS.lstore X0.here hx rfl (hb hby at_13) rfl (l' := #[.val (.long q1), .second, .val (.long q2), .second, .val (.long q3), .second, .val (.int p4), .val (.long q5), .second, .val (.long q6), .second, .val (.long (1 : Int64)), .second, .unset, .unset, .unset, .unset, .unset, .unset, .unset, .unset, .unset, .unset, .unset, .unset, .unset, .unset, .unset, .unset, .unset, .unset]) rfl ?_
        exact k)
      exact kj ⟨(1 : Int64), _, s₁, (by decide), N0, X0, e0, pre4⟩
    ·  -- pc 4: not q3 = (0 : Int64)
      have pre5 : ∀ t, Steps p.tables e below (s₁.setTop (mkF m 15 #[.val (.long q1), .second, .val (.long q2), .second, .val (.long q3), .second, .val (.int p4), .val (.long q5), .second, .val (.long q6), .second, .val (.long q3), .second, .unset, .unset, .unset, .unset, .unset, .unset, .unset, .unset, .unset, .unset, .unset, .unset, .unset, .unset, .unset, .unset, .unset, .unset] [])) t → Steps p.tables e below (s₁.setTop (entryFrame m #[(.long q1), (.long q2), (.long q3), (.int p4), (.long q5), (.long q6)] maxLocals)) t := fun t k => pre1 t (by
        show Steps p.tables e below (s₁.setTop (mkF m 4 #[.val (.long q1), .second, .val (.long q2), .second, .val (.long q3), .second, .val (.int p4), .val (.long q5), .second, .val (.long q6), .second, .unset, .unset, .unset, .unset, .unset, .unset, .unset, .unset, .unset, .unset, .unset, .unset, .unset, .unset, .unset, .unset, .unset, .unset, .unset, .unset] [(.int (lcmpW q3 (0 : Int64)))])) _
        refine XS.ifYes X0.here hx rfl (pc0 := 4) (pc' := 11) rfl (hb hby at_4) rfl ((if0 _ _).trans (feq (mt (lw_eq _ _).mp hc3)).2) (by decide) (by decide) ?_
        show Steps p.tables e below (s₁.setTop (mkF m 11 #[.val (.long q1), .second, .val (.long q2), .second, .val (.long q3), .second, .val (.int p4), .val (.long q5), .second, .val (.long q6), .second, .unset, .unset, .unset, .unset, .unset, .unset, .unset, .unset, .unset, .unset, .unset, .unset, .unset, .unset, .unset, .unset, .unset, .unset, .unset, .unset] [])) _
        refine XS.lload X0.here hx rfl (hb hby at_11) rfl ?_
        show Steps p.tables e below (s₁.setTop (mkF m 13 #[.val (.long q1), .second, .val (.long q2), .second, .val (.long q3), .second, .val (.int p4), .val (.long q5), .second, .val (.long q6), .second, .unset, .unset, .unset, .unset, .unset, .unset, .unset, .unset, .unset, .unset, .unset, .unset, .unset, .unset, .unset, .unset, .unset, .unset, .unset, .unset] [(.long q3)])) _
        refine XS.lstore X0.here hx rfl (hb hby at_13) rfl (l' := #[.val (.long q1), .second, .val (.long q2), .second, .val (.long q3), .second, .val (.int p4), .val (.long q5), .second, .val (.long q6), .second, .val (.long q3), .second, .unset, .unset, .unset, .unset, .unset, .unset, .unset, .unset, .unset, .unset, .unset, .unset, .unset, .unset, .unset, .unset, .unset, .unset]) rfl ?_
        exact k)
      exact kj ⟨q3, _, s₁, hc3, N0, X0, e0, pre5⟩
  ·  -- from the meeting at pc 15
    rintro ⟨dd, lcj2, Tj2, hdd, Nj2, Xj2, ej2, prej2⟩
    have pre6 : ∀ t, Steps p.tables e below (Tj2.setTop (mkF m 19 #[.val (.long q1), .second, .val (.long q2), .second, .val (.long q3), .second, .val (.int p4), .val (.long q5), .second, .val (.long q6), .second, .val (.long dd), .second, .unset, .unset, .unset, .unset, .unset, .unset, .unset, .unset, .unset, .unset, .unset, .unset, .unset, .unset, .unset, .unset, .unset, .unset] [(.int (p4 &&& (1 : Int32)))])) t → Steps p.tables e below (s₁.setTop (entryFrame m #[(.long q1), (.long q2), (.long q3), (.int p4), (.long q5), (.long q6)] maxLocals)) t := fun t k => prej2 t (by
      show Steps p.tables e below (Tj2.setTop (mkF m 15 #[.val (.long q1), .second, .val (.long q2), .second, .val (.long q3), .second, .val (.int p4), .val (.long q5), .second, .val (.long q6), .second, .val (.long dd), .second, .unset, .unset, .unset, .unset, .unset, .unset, .unset, .unset, .unset, .unset, .unset, .unset, .unset, .unset, .unset, .unset, .unset, .unset] [])) _
      refine XS.iload Xj2.here hx rfl (hb hby at_15) rfl ?_
      show Steps p.tables e below (Tj2.setTop (mkF m 17 #[.val (.long q1), .second, .val (.long q2), .second, .val (.long q3), .second, .val (.int p4), .val (.long q5), .second, .val (.long q6), .second, .val (.long dd), .second, .unset, .unset, .unset, .unset, .unset, .unset, .unset, .unset, .unset, .unset, .unset, .unset, .unset, .unset, .unset, .unset, .unset, .unset] [(.int p4)])) _
      refine XS.iconst Xj2.here hx rfl (hb hby at_17) ?_
      show Steps p.tables e below (Tj2.setTop (mkF m 18 #[.val (.long q1), .second, .val (.long q2), .second, .val (.long q3), .second, .val (.int p4), .val (.long q5), .second, .val (.long q6), .second, .val (.long dd), .second, .unset, .unset, .unset, .unset, .unset, .unset, .unset, .unset, .unset, .unset, .unset, .unset, .unset, .unset, .unset, .unset, .unset, .unset] [(.int (1 : Int32)), (.int p4)])) _
      refine XS.iand Xj2.here hx rfl (hb hby at_18) rfl ?_
      exact k)
    refine cps (A := ∃ (g1 : Int32) (lcj7 : List Loc) (Tj7 : State), ((g1 = (0 : Int32)) ↔ ((p4 &&& (1 : Int32)) = (0 : Int32))) ∧ Fr n0 lcj7 ∧ Stand p l e room_1 s m #[(.long q1), (.long q2), (.long q3), (.int p4), (.long q5), (.long q6)] below meth c Tj7 lcj7 0 0 ∧ Tj7.heap = h0 ∧ (∀ t, Steps p.tables e below (Tj7.setTop (mkF m 29 #[.val (.long q1), .second, .val (.long q2), .second, .val (.long q3), .second, .val (.int p4), .val (.long q5), .second, .val (.long q6), .second, .val (.long dd), .second, .val (.int g1), .unset, .unset, .unset, .unset, .unset, .unset, .unset, .unset, .unset, .unset, .unset, .unset, .unset, .unset, .unset, .unset, .unset] [])) t → Steps p.tables e below (s₁.setTop (entryFrame m #[(.long q1), (.long q2), (.long q3), (.int p4), (.long q5), (.long q6)] maxLocals)) t)) (fun kj => ?_) ?_
    ·  -- to the meeting at pc 29
      by_cases hc8 : (p4 &&& (1 : Int32)) = (0 : Int32)
      ·  -- pc 19: (p4 &&& (1 : Int32)) = (0 : Int32)
        have pre9 : ∀ t, Steps p.tables e below (Tj2.setTop (mkF m 29 #[.val (.long q1), .second, .val (.long q2), .second, .val (.long q3), .second, .val (.int p4), .val (.long q5), .second, .val (.long q6), .second, .val (.long dd), .second, .val (.int (0 : Int32)), .unset, .unset, .unset, .unset, .unset, .unset, .unset, .unset, .unset, .unset, .unset, .unset, .unset, .unset, .unset, .unset, .unset] [])) t → Steps p.tables e below (s₁.setTop (entryFrame m #[(.long q1), (.long q2), (.long q3), (.int p4), (.long q5), (.long q6)] maxLocals)) t := fun t k => pre6 t (by
          show Steps p.tables e below (Tj2.setTop (mkF m 19 #[.val (.long q1), .second, .val (.long q2), .second, .val (.long q3), .second, .val (.int p4), .val (.long q5), .second, .val (.long q6), .second, .val (.long dd), .second, .unset, .unset, .unset, .unset, .unset, .unset, .unset, .unset, .unset, .unset, .unset, .unset, .unset, .unset, .unset, .unset, .unset, .unset] [(.int (p4 &&& (1 : Int32)))])) _
          refine XS.ifYes Xj2.here hx rfl (pc0 := 19) (pc' := 26) rfl (hb hby at_19) rfl ((if0 _ _).trans (teq hc8).1) (by decide) (by decide) ?_
          show Steps p.tables e below (Tj2.setTop (mkF m 26 #[.val (.long q1), .second, .val (.long q2), .second, .val (.long q3), .second, .val (.int p4), .val (.long q5), .second, .val (.long q6), .second, .val (.long dd), .second, .unset, .unset, .unset, .unset, .unset, .unset, .unset, .unset, .unset, .unset, .unset, .unset, .unset, .unset, .unset, .unset, .unset, .unset] [])) _
          refine XS.iconst Xj2.here hx rfl (hb hby at_26) ?_
          show Steps p.tables e below (Tj2.setTop (mkF m 27 #[.val (.long q1), .second, .val (.long q2), .second, .val (.long q3), .second, .val (.int p4), .val (.long q5), .second, .val (.long q6), .second, .val (.long dd), .second, .unset, .unset, .unset, .unset, .unset, .unset, .unset, .unset, .unset, .unset, .unset, .unset, .unset, .unset, .unset, .unset, .unset, .unset] [(.int (0 : Int32))])) _
          refine XS.istore Xj2.here hx rfl (hb hby at_27) rfl (l' := #[.val (.long q1), .second, .val (.long q2), .second, .val (.long q3), .second, .val (.int p4), .val (.long q5), .second, .val (.long q6), .second, .val (.long dd), .second, .val (.int (0 : Int32)), .unset, .unset, .unset, .unset, .unset, .unset, .unset, .unset, .unset, .unset, .unset, .unset, .unset, .unset, .unset, .unset, .unset]) rfl ?_
          exact k)
        exact kj ⟨(0 : Int32), _, Tj2, ⟨fun _ => hc8, fun _ => rfl⟩, Nj2, Xj2, ej2, pre9⟩
      ·  -- pc 19: not (p4 &&& (1 : Int32)) = (0 : Int32)
        have pre10 : ∀ t, Steps p.tables e below (Tj2.setTop (mkF m 29 #[.val (.long q1), .second, .val (.long q2), .second, .val (.long q3), .second, .val (.int p4), .val (.long q5), .second, .val (.long q6), .second, .val (.long dd), .second, .val (.int (1 : Int32)), .unset, .unset, .unset, .unset, .unset, .unset, .unset, .unset, .unset, .unset, .unset, .unset, .unset, .unset, .unset, .unset, .unset] [])) t → Steps p.tables e below (s₁.setTop (entryFrame m #[(.long q1), (.long q2), (.long q3), (.int p4), (.long q5), (.long q6)] maxLocals)) t := fun t k => pre6 t (by
          show Steps p.tables e below (Tj2.setTop (mkF m 19 #[.val (.long q1), .second, .val (.long q2), .second, .val (.long q3), .second, .val (.int p4), .val (.long q5), .second, .val (.long q6), .second, .val (.long dd), .second, .unset, .unset, .unset, .unset, .unset, .unset, .unset, .unset, .unset, .unset, .unset, .unset, .unset, .unset, .unset, .unset, .unset, .unset] [(.int (p4 &&& (1 : Int32)))])) _
          refine XS.ifNo Xj2.here hx rfl (hb hby at_19) rfl ((if0 _ _).trans (feq hc8).1) ?_
          show Steps p.tables e below (Tj2.setTop (mkF m 22 #[.val (.long q1), .second, .val (.long q2), .second, .val (.long q3), .second, .val (.int p4), .val (.long q5), .second, .val (.long q6), .second, .val (.long dd), .second, .unset, .unset, .unset, .unset, .unset, .unset, .unset, .unset, .unset, .unset, .unset, .unset, .unset, .unset, .unset, .unset, .unset, .unset] [])) _
          refine XS.iconst Xj2.here hx rfl (hb hby at_22) ?_
          show Steps p.tables e below (Tj2.setTop (mkF m 23 #[.val (.long q1), .second, .val (.long q2), .second, .val (.long q3), .second, .val (.int p4), .val (.long q5), .second, .val (.long q6), .second, .val (.long dd), .second, .unset, .unset, .unset, .unset, .unset, .unset, .unset, .unset, .unset, .unset, .unset, .unset, .unset, .unset, .unset, .unset, .unset, .unset] [(.int (1 : Int32))])) _
          refine XS.goto Xj2.here hx rfl (pc0 := 23) (pc' := 27) rfl (hb hby at_23) (by decide) (by decide) ?_
          show Steps p.tables e below (Tj2.setTop (mkF m 27 #[.val (.long q1), .second, .val (.long q2), .second, .val (.long q3), .second, .val (.int p4), .val (.long q5), .second, .val (.long q6), .second, .val (.long dd), .second, .unset, .unset, .unset, .unset, .unset, .unset, .unset, .unset, .unset, .unset, .unset, .unset, .unset, .unset, .unset, .unset, .unset, .unset] [(.int (1 : Int32))])) _
          refine XS.istore Xj2.here hx rfl (hb hby at_27) rfl (l' := #[.val (.long q1), .second, .val (.long q2), .second, .val (.long q3), .second, .val (.int p4), .val (.long q5), .second, .val (.long q6), .second, .val (.long dd), .second, .val (.int (1 : Int32)), .unset, .unset, .unset, .unset, .unset, .unset, .unset, .unset, .unset, .unset, .unset, .unset, .unset, .unset, .unset, .unset, .unset]) rfl ?_
          exact k)
        exact kj ⟨(1 : Int32), _, Tj2, ⟨fun q => absurd q (by decide), fun q => absurd q hc8⟩, Nj2, Xj2, ej2, pre10⟩
    ·  -- from the meeting at pc 29
      rintro ⟨g1, lcj7, Tj7, hg1, Nj7, Xj7, ej7, prej7⟩
      have pre11 : ∀ t, Steps p.tables e below (Tj7.setTop (mkF m 33 #[.val (.long q1), .second, .val (.long q2), .second, .val (.long q3), .second, .val (.int p4), .val (.long q5), .second, .val (.long q6), .second, .val (.long dd), .second, .val (.int g1), .unset, .unset, .unset, .unset, .unset, .unset, .unset, .unset, .unset, .unset, .unset, .unset, .unset, .unset, .unset, .unset, .unset] [(.int (p4 &&& (2 : Int32)))])) t → Steps p.tables e below (s₁.setTop (entryFrame m #[(.long q1), (.long q2), (.long q3), (.int p4), (.long q5), (.long q6)] maxLocals)) t := fun t k => prej7 t (by
        show Steps p.tables e below (Tj7.setTop (mkF m 29 #[.val (.long q1), .second, .val (.long q2), .second, .val (.long q3), .second, .val (.int p4), .val (.long q5), .second, .val (.long q6), .second, .val (.long dd), .second, .val (.int g1), .unset, .unset, .unset, .unset, .unset, .unset, .unset, .unset, .unset, .unset, .unset, .unset, .unset, .unset, .unset, .unset, .unset] [])) _
        refine XS.iload Xj7.here hx rfl (hb hby at_29) rfl ?_
        show Steps p.tables e below (Tj7.setTop (mkF m 31 #[.val (.long q1), .second, .val (.long q2), .second, .val (.long q3), .second, .val (.int p4), .val (.long q5), .second, .val (.long q6), .second, .val (.long dd), .second, .val (.int g1), .unset, .unset, .unset, .unset, .unset, .unset, .unset, .unset, .unset, .unset, .unset, .unset, .unset, .unset, .unset, .unset, .unset] [(.int p4)])) _
        refine XS.iconst Xj7.here hx rfl (hb hby at_31) ?_
        show Steps p.tables e below (Tj7.setTop (mkF m 32 #[.val (.long q1), .second, .val (.long q2), .second, .val (.long q3), .second, .val (.int p4), .val (.long q5), .second, .val (.long q6), .second, .val (.long dd), .second, .val (.int g1), .unset, .unset, .unset, .unset, .unset, .unset, .unset, .unset, .unset, .unset, .unset, .unset, .unset, .unset, .unset, .unset, .unset] [(.int (2 : Int32)), (.int p4)])) _
        refine XS.iand Xj7.here hx rfl (hb hby at_32) rfl ?_
        exact k)
      refine cps (A := ∃ (g2 : Int32) (lcj12 : List Loc) (Tj12 : State), ((g2 = (0 : Int32)) ↔ ((p4 &&& (2 : Int32)) = (0 : Int32))) ∧ Fr n0 lcj12 ∧ Stand p l e room_1 s m #[(.long q1), (.long q2), (.long q3), (.int p4), (.long q5), (.long q6)] below meth c Tj12 lcj12 0 0 ∧ Tj12.heap = h0 ∧ (∀ t, Steps p.tables e below (Tj12.setTop (mkF m 43 #[.val (.long q1), .second, .val (.long q2), .second, .val (.long q3), .second, .val (.int p4), .val (.long q5), .second, .val (.long q6), .second, .val (.long dd), .second, .val (.int g1), .val (.int g2), .unset, .unset, .unset, .unset, .unset, .unset, .unset, .unset, .unset, .unset, .unset, .unset, .unset, .unset, .unset, .unset] [])) t → Steps p.tables e below (s₁.setTop (entryFrame m #[(.long q1), (.long q2), (.long q3), (.int p4), (.long q5), (.long q6)] maxLocals)) t)) (fun kj => ?_) ?_
      ·  -- to the meeting at pc 43
        by_cases hc13 : (p4 &&& (2 : Int32)) = (0 : Int32)
        ·  -- pc 33: (p4 &&& (2 : Int32)) = (0 : Int32)
          have pre14 : ∀ t, Steps p.tables e below (Tj7.setTop (mkF m 43 #[.val (.long q1), .second, .val (.long q2), .second, .val (.long q3), .second, .val (.int p4), .val (.long q5), .second, .val (.long q6), .second, .val (.long dd), .second, .val (.int g1), .val (.int (0 : Int32)), .unset, .unset, .unset, .unset, .unset, .unset, .unset, .unset, .unset, .unset, .unset, .unset, .unset, .unset, .unset, .unset] [])) t → Steps p.tables e below (s₁.setTop (entryFrame m #[(.long q1), (.long q2), (.long q3), (.int p4), (.long q5), (.long q6)] maxLocals)) t := fun t k => pre11 t (by
            show Steps p.tables e below (Tj7.setTop (mkF m 33 #[.val (.long q1), .second, .val (.long q2), .second, .val (.long q3), .second, .val (.int p4), .val (.long q5), .second, .val (.long q6), .second, .val (.long dd), .second, .val (.int g1), .unset, .unset, .unset, .unset, .unset, .unset, .unset, .unset, .unset, .unset, .unset, .unset, .unset, .unset, .unset, .unset, .unset] [(.int (p4 &&& (2 : Int32)))])) _
            refine XS.ifYes Xj7.here hx rfl (pc0 := 33) (pc' := 40) rfl (hb hby at_33) rfl ((if0 _ _).trans (teq hc13).1) (by decide) (by decide) ?_
            show Steps p.tables e below (Tj7.setTop (mkF m 40 #[.val (.long q1), .second, .val (.long q2), .second, .val (.long q3), .second, .val (.int p4), .val (.long q5), .second, .val (.long q6), .second, .val (.long dd), .second, .val (.int g1), .unset, .unset, .unset, .unset, .unset, .unset, .unset, .unset, .unset, .unset, .unset, .unset, .unset, .unset, .unset, .unset, .unset] [])) _
            refine XS.iconst Xj7.here hx rfl (hb hby at_40) ?_
            show Steps p.tables e below (Tj7.setTop (mkF m 41 #[.val (.long q1), .second, .val (.long q2), .second, .val (.long q3), .second, .val (.int p4), .val (.long q5), .second, .val (.long q6), .second, .val (.long dd), .second, .val (.int g1), .unset, .unset, .unset, .unset, .unset, .unset, .unset, .unset, .unset, .unset, .unset, .unset, .unset, .unset, .unset, .unset, .unset] [(.int (0 : Int32))])) _
            refine XS.istore Xj7.here hx rfl (hb hby at_41) rfl (l' := #[.val (.long q1), .second, .val (.long q2), .second, .val (.long q3), .second, .val (.int p4), .val (.long q5), .second, .val (.long q6), .second, .val (.long dd), .second, .val (.int g1), .val (.int (0 : Int32)), .unset, .unset, .unset, .unset, .unset, .unset, .unset, .unset, .unset, .unset, .unset, .unset, .unset, .unset, .unset, .unset]) rfl ?_
            exact k)
          exact kj ⟨(0 : Int32), _, Tj7, ⟨fun _ => hc13, fun _ => rfl⟩, Nj7, Xj7, ej7, pre14⟩
        ·  -- pc 33: not (p4 &&& (2 : Int32)) = (0 : Int32)
          have pre15 : ∀ t, Steps p.tables e below (Tj7.setTop (mkF m 43 #[.val (.long q1), .second, .val (.long q2), .second, .val (.long q3), .second, .val (.int p4), .val (.long q5), .second, .val (.long q6), .second, .val (.long dd), .second, .val (.int g1), .val (.int (1 : Int32)), .unset, .unset, .unset, .unset, .unset, .unset, .unset, .unset, .unset, .unset, .unset, .unset, .unset, .unset, .unset, .unset] [])) t → Steps p.tables e below (s₁.setTop (entryFrame m #[(.long q1), (.long q2), (.long q3), (.int p4), (.long q5), (.long q6)] maxLocals)) t := fun t k => pre11 t (by
            show Steps p.tables e below (Tj7.setTop (mkF m 33 #[.val (.long q1), .second, .val (.long q2), .second, .val (.long q3), .second, .val (.int p4), .val (.long q5), .second, .val (.long q6), .second, .val (.long dd), .second, .val (.int g1), .unset, .unset, .unset, .unset, .unset, .unset, .unset, .unset, .unset, .unset, .unset, .unset, .unset, .unset, .unset, .unset, .unset] [(.int (p4 &&& (2 : Int32)))])) _
            refine XS.ifNo Xj7.here hx rfl (hb hby at_33) rfl ((if0 _ _).trans (feq hc13).1) ?_
            show Steps p.tables e below (Tj7.setTop (mkF m 36 #[.val (.long q1), .second, .val (.long q2), .second, .val (.long q3), .second, .val (.int p4), .val (.long q5), .second, .val (.long q6), .second, .val (.long dd), .second, .val (.int g1), .unset, .unset, .unset, .unset, .unset, .unset, .unset, .unset, .unset, .unset, .unset, .unset, .unset, .unset, .unset, .unset, .unset] [])) _
            refine XS.iconst Xj7.here hx rfl (hb hby at_36) ?_
            show Steps p.tables e below (Tj7.setTop (mkF m 37 #[.val (.long q1), .second, .val (.long q2), .second, .val (.long q3), .second, .val (.int p4), .val (.long q5), .second, .val (.long q6), .second, .val (.long dd), .second, .val (.int g1), .unset, .unset, .unset, .unset, .unset, .unset, .unset, .unset, .unset, .unset, .unset, .unset, .unset, .unset, .unset, .unset, .unset] [(.int (1 : Int32))])) _
            refine XS.goto Xj7.here hx rfl (pc0 := 37) (pc' := 41) rfl (hb hby at_37) (by decide) (by decide) ?_
            show Steps p.tables e below (Tj7.setTop (mkF m 41 #[.val (.long q1), .second, .val (.long q2), .second, .val (.long q3), .second, .val (.int p4), .val (.long q5), .second, .val (.long q6), .second, .val (.long dd), .second, .val (.int g1), .unset, .unset, .unset, .unset, .unset, .unset, .unset, .unset, .unset, .unset, .unset, .unset, .unset, .unset, .unset, .unset, .unset] [(.int (1 : Int32))])) _
            refine XS.istore Xj7.here hx rfl (hb hby at_41) rfl (l' := #[.val (.long q1), .second, .val (.long q2), .second, .val (.long q3), .second, .val (.int p4), .val (.long q5), .second, .val (.long q6), .second, .val (.long dd), .second, .val (.int g1), .val (.int (1 : Int32)), .unset, .unset, .unset, .unset, .unset, .unset, .unset, .unset, .unset, .unset, .unset, .unset, .unset, .unset, .unset, .unset]) rfl ?_
            exact k)
          exact kj ⟨(1 : Int32), _, Tj7, ⟨fun q => absurd q (by decide), fun q => absurd q hc13⟩, Nj7, Xj7, ej7, pre15⟩
      ·  -- from the meeting at pc 43
        rintro ⟨g2, lcj12, Tj12, hg2, Nj12, Xj12, ej12, prej12⟩
        have pre16 : ∀ t, Steps p.tables e below (Tj12.setTop (mkF m 47 #[.val (.long q1), .second, .val (.long q2), .second, .val (.long q3), .second, .val (.int p4), .val (.long q5), .second, .val (.long q6), .second, .val (.long dd), .second, .val (.int g1), .val (.int g2), .unset, .unset, .unset, .unset, .unset, .unset, .unset, .unset, .unset, .unset, .unset, .unset, .unset, .unset, .unset, .unset] [(.int (p4 &&& (4 : Int32)))])) t → Steps p.tables e below (s₁.setTop (entryFrame m #[(.long q1), (.long q2), (.long q3), (.int p4), (.long q5), (.long q6)] maxLocals)) t := fun t k => prej12 t (by
          show Steps p.tables e below (Tj12.setTop (mkF m 43 #[.val (.long q1), .second, .val (.long q2), .second, .val (.long q3), .second, .val (.int p4), .val (.long q5), .second, .val (.long q6), .second, .val (.long dd), .second, .val (.int g1), .val (.int g2), .unset, .unset, .unset, .unset, .unset, .unset, .unset, .unset, .unset, .unset, .unset, .unset, .unset, .unset, .unset, .unset] [])) _
          refine XS.iload Xj12.here hx rfl (hb hby at_43) rfl ?_
          show Steps p.tables e below (Tj12.setTop (mkF m 45 #[.val (.long q1), .second, .val (.long q2), .second, .val (.long q3), .second, .val (.int p4), .val (.long q5), .second, .val (.long q6), .second, .val (.long dd), .second, .val (.int g1), .val (.int g2), .unset, .unset, .unset, .unset, .unset, .unset, .unset, .unset, .unset, .unset, .unset, .unset, .unset, .unset, .unset, .unset] [(.int p4)])) _
          refine XS.iconst Xj12.here hx rfl (hb hby at_45) ?_
          show Steps p.tables e below (Tj12.setTop (mkF m 46 #[.val (.long q1), .second, .val (.long q2), .second, .val (.long q3), .second, .val (.int p4), .val (.long q5), .second, .val (.long q6), .second, .val (.long dd), .second, .val (.int g1), .val (.int g2), .unset, .unset, .unset, .unset, .unset, .unset, .unset, .unset, .unset, .unset, .unset, .unset, .unset, .unset, .unset, .unset] [(.int (4 : Int32)), (.int p4)])) _
          refine XS.iand Xj12.here hx rfl (hb hby at_46) rfl ?_
          exact k)
        refine cps (A := ∃ (g4 : Int32) (lcj17 : List Loc) (Tj17 : State), ((g4 = (0 : Int32)) ↔ ((p4 &&& (4 : Int32)) = (0 : Int32))) ∧ Fr n0 lcj17 ∧ Stand p l e room_1 s m #[(.long q1), (.long q2), (.long q3), (.int p4), (.long q5), (.long q6)] below meth c Tj17 lcj17 0 0 ∧ Tj17.heap = h0 ∧ (∀ t, Steps p.tables e below (Tj17.setTop (mkF m 57 #[.val (.long q1), .second, .val (.long q2), .second, .val (.long q3), .second, .val (.int p4), .val (.long q5), .second, .val (.long q6), .second, .val (.long dd), .second, .val (.int g1), .val (.int g2), .val (.int g4), .unset, .unset, .unset, .unset, .unset, .unset, .unset, .unset, .unset, .unset, .unset, .unset, .unset, .unset, .unset] [])) t → Steps p.tables e below (s₁.setTop (entryFrame m #[(.long q1), (.long q2), (.long q3), (.int p4), (.long q5), (.long q6)] maxLocals)) t)) (fun kj => ?_) ?_
        ·  -- to the meeting at pc 57
          by_cases hc18 : (p4 &&& (4 : Int32)) = (0 : Int32)
          ·  -- pc 47: (p4 &&& (4 : Int32)) = (0 : Int32)
            have pre19 : ∀ t, Steps p.tables e below (Tj12.setTop (mkF m 57 #[.val (.long q1), .second, .val (.long q2), .second, .val (.long q3), .second, .val (.int p4), .val (.long q5), .second, .val (.long q6), .second, .val (.long dd), .second, .val (.int g1), .val (.int g2), .val (.int (0 : Int32)), .unset, .unset, .unset, .unset, .unset, .unset, .unset, .unset, .unset, .unset, .unset, .unset, .unset, .unset, .unset] [])) t → Steps p.tables e below (s₁.setTop (entryFrame m #[(.long q1), (.long q2), (.long q3), (.int p4), (.long q5), (.long q6)] maxLocals)) t := fun t k => pre16 t (by
              show Steps p.tables e below (Tj12.setTop (mkF m 47 #[.val (.long q1), .second, .val (.long q2), .second, .val (.long q3), .second, .val (.int p4), .val (.long q5), .second, .val (.long q6), .second, .val (.long dd), .second, .val (.int g1), .val (.int g2), .unset, .unset, .unset, .unset, .unset, .unset, .unset, .unset, .unset, .unset, .unset, .unset, .unset, .unset, .unset, .unset] [(.int (p4 &&& (4 : Int32)))])) _
              refine XS.ifYes Xj12.here hx rfl (pc0 := 47) (pc' := 54) rfl (hb hby at_47) rfl ((if0 _ _).trans (teq hc18).1) (by decide) (by decide) ?_
              show Steps p.tables e below (Tj12.setTop (mkF m 54 #[.val (.long q1), .second, .val (.long q2), .second, .val (.long q3), .second, .val (.int p4), .val (.long q5), .second, .val (.long q6), .second, .val (.long dd), .second, .val (.int g1), .val (.int g2), .unset, .unset, .unset, .unset, .unset, .unset, .unset, .unset, .unset, .unset, .unset, .unset, .unset, .unset, .unset, .unset] [])) _
              refine XS.iconst Xj12.here hx rfl (hb hby at_54) ?_
              show Steps p.tables e below (Tj12.setTop (mkF m 55 #[.val (.long q1), .second, .val (.long q2), .second, .val (.long q3), .second, .val (.int p4), .val (.long q5), .second, .val (.long q6), .second, .val (.long dd), .second, .val (.int g1), .val (.int g2), .unset, .unset, .unset, .unset, .unset, .unset, .unset, .unset, .unset, .unset, .unset, .unset, .unset, .unset, .unset, .unset] [(.int (0 : Int32))])) _
              refine XS.istore Xj12.here hx rfl (hb hby at_55) rfl (l' := #[.val (.long q1), .second, .val (.long q2), .second, .val (.long q3), .second, .val (.int p4), .val (.long q5), .second, .val (.long q6), .second, .val (.long dd), .second, .val (.int g1), .val (.int g2), .val (.int (0 : Int32)), .unset, .unset, .unset, .unset, .unset, .unset, .unset, .unset, .unset, .unset, .unset, .unset, .unset, .unset, .unset]) rfl ?_
              exact k)
            exact kj ⟨(0 : Int32), _, Tj12, ⟨fun _ => hc18, fun _ => rfl⟩, Nj12, Xj12, ej12, pre19⟩
          ·  -- pc 47: not (p4 &&& (4 : Int32)) = (0 : Int32)
            have pre20 : ∀ t, Steps p.tables e below (Tj12.setTop (mkF m 57 #[.val (.long q1), .second, .val (.long q2), .second, .val (.long q3), .second, .val (.int p4), .val (.long q5), .second, .val (.long q6), .second, .val (.long dd), .second, .val (.int g1), .val (.int g2), .val (.int (1 : Int32)), .unset, .unset, .unset, .unset, .unset, .unset, .unset, .unset, .unset, .unset, .unset, .unset, .unset, .unset, .unset] [])) t → Steps p.tables e below (s₁.setTop (entryFrame m #[(.long q1), (.long q2), (.long q3), (.int p4), (.long q5), (.long q6)] maxLocals)) t := fun t k => pre16 t (by
              show Steps p.tables e below (Tj12.setTop (mkF m 47 #[.val (.long q1), .second, .val (.long q2), .second, .val (.long q3), .second, .val (.int p4), .val (.long q5), .second, .val (.long q6), .second, .val (.long dd), .second, .val (.int g1), .val (.int g2), .unset, .unset, .unset, .unset, .unset, .unset, .unset, .unset, .unset, .unset, .unset, .unset, .unset, .unset, .unset, .unset] [(.int (p4 &&& (4 : Int32)))])) _
              refine XS.ifNo Xj12.here hx rfl (hb hby at_47) rfl ((if0 _ _).trans (feq hc18).1) ?_
              show Steps p.tables e below (Tj12.setTop (mkF m 50 #[.val (.long q1), .second, .val (.long q2), .second, .val (.long q3), .second, .val (.int p4), .val (.long q5), .second, .val (.long q6), .second, .val (.long dd), .second, .val (.int g1), .val (.int g2), .unset, .unset, .unset, .unset, .unset, .unset, .unset, .unset, .unset, .unset, .unset, .unset, .unset, .unset, .unset, .unset] [])) _
              refine XS.iconst Xj12.here hx rfl (hb hby at_50) ?_
              show Steps p.tables e below (Tj12.setTop (mkF m 51 #[.val (.long q1), .second, .val (.long q2), .second, .val (.long q3), .second, .val (.int p4), .val (.long q5), .second, .val (.long q6), .second, .val (.long dd), .second, .val (.int g1), .val (.int g2), .unset, .unset, .unset, .unset, .unset, .unset, .unset, .unset, .unset, .unset, .unset, .unset, .unset, .unset, .unset, .unset] [(.int (1 : Int32))])) _
              refine XS.goto Xj12.here hx rfl (pc0 := 51) (pc' := 55) rfl (hb hby at_51) (by decide) (by decide) ?_
              show Steps p.tables e below (Tj12.setTop (mkF m 55 #[.val (.long q1), .second, .val (.long q2), .second, .val (.long q3), .second, .val (.int p4), .val (.long q5), .second, .val (.long q6), .second, .val (.long dd), .second, .val (.int g1), .val (.int g2), .unset, .unset, .unset, .unset, .unset, .unset, .unset, .unset, .unset, .unset, .unset, .unset, .unset, .unset, .unset, .unset] [(.int (1 : Int32))])) _
              refine XS.istore Xj12.here hx rfl (hb hby at_55) rfl (l' := #[.val (.long q1), .second, .val (.long q2), .second, .val (.long q3), .second, .val (.int p4), .val (.long q5), .second, .val (.long q6), .second, .val (.long dd), .second, .val (.int g1), .val (.int g2), .val (.int (1 : Int32)), .unset, .unset, .unset, .unset, .unset, .unset, .unset, .unset, .unset, .unset, .unset, .unset, .unset, .unset, .unset]) rfl ?_
              exact k)
            exact kj ⟨(1 : Int32), _, Tj12, ⟨fun q => absurd q (by decide), fun q => absurd q hc18⟩, Nj12, Xj12, ej12, pre20⟩
        ·  -- from the meeting at pc 57
          rintro ⟨g4, lcj17, Tj17, hg4, Nj17, Xj17, ej17, prej17⟩
          have pre21 : ∀ t, Steps p.tables e below (Tj17.setTop (mkF m 62 #[.val (.long q1), .second, .val (.long q2), .second, .val (.long q3), .second, .val (.int p4), .val (.long q5), .second, .val (.long q6), .second, .val (.long dd), .second, .val (.int g1), .val (.int g2), .val (.int g4), .unset, .unset, .unset, .unset, .unset, .unset, .unset, .unset, .unset, .unset, .unset, .unset, .unset, .unset, .unset] [(.int (p4 &&& (8 : Int32)))])) t → Steps p.tables e below (s₁.setTop (entryFrame m #[(.long q1), (.long q2), (.long q3), (.int p4), (.long q5), (.long q6)] maxLocals)) t := fun t k => prej17 t (by
            show Steps p.tables e below (Tj17.setTop (mkF m 57 #[.val (.long q1), .second, .val (.long q2), .second, .val (.long q3), .second, .val (.int p4), .val (.long q5), .second, .val (.long q6), .second, .val (.long dd), .second, .val (.int g1), .val (.int g2), .val (.int g4), .unset, .unset, .unset, .unset, .unset, .unset, .unset, .unset, .unset, .unset, .unset, .unset, .unset, .unset, .unset] [])) _
            refine XS.iload Xj17.here hx rfl (hb hby at_57) rfl ?_
            show Steps p.tables e below (Tj17.setTop (mkF m 59 #[.val (.long q1), .second, .val (.long q2), .second, .val (.long q3), .second, .val (.int p4), .val (.long q5), .second, .val (.long q6), .second, .val (.long dd), .second, .val (.int g1), .val (.int g2), .val (.int g4), .unset, .unset, .unset, .unset, .unset, .unset, .unset, .unset, .unset, .unset, .unset, .unset, .unset, .unset, .unset] [(.int p4)])) _
            refine XS.bipush Xj17.here hx rfl (hb hby at_59) ?_
            show Steps p.tables e below (Tj17.setTop (mkF m 61 #[.val (.long q1), .second, .val (.long q2), .second, .val (.long q3), .second, .val (.int p4), .val (.long q5), .second, .val (.long q6), .second, .val (.long dd), .second, .val (.int g1), .val (.int g2), .val (.int g4), .unset, .unset, .unset, .unset, .unset, .unset, .unset, .unset, .unset, .unset, .unset, .unset, .unset, .unset, .unset] [(.int (8 : Int32)), (.int p4)])) _
            refine XS.iand Xj17.here hx rfl (hb hby at_61) rfl ?_
            exact k)
          refine cps (A := ∃ (g8 : Int32) (lcj22 : List Loc) (Tj22 : State), ((g8 = (0 : Int32)) ↔ ((p4 &&& (8 : Int32)) = (0 : Int32))) ∧ Fr n0 lcj22 ∧ Stand p l e room_1 s m #[(.long q1), (.long q2), (.long q3), (.int p4), (.long q5), (.long q6)] below meth c Tj22 lcj22 0 0 ∧ Tj22.heap = h0 ∧ (∀ t, Steps p.tables e below (Tj22.setTop (mkF m 72 #[.val (.long q1), .second, .val (.long q2), .second, .val (.long q3), .second, .val (.int p4), .val (.long q5), .second, .val (.long q6), .second, .val (.long dd), .second, .val (.int g1), .val (.int g2), .val (.int g4), .val (.int g8), .unset, .unset, .unset, .unset, .unset, .unset, .unset, .unset, .unset, .unset, .unset, .unset, .unset, .unset] [])) t → Steps p.tables e below (s₁.setTop (entryFrame m #[(.long q1), (.long q2), (.long q3), (.int p4), (.long q5), (.long q6)] maxLocals)) t)) (fun kj => ?_) ?_
          ·  -- to the meeting at pc 72
            by_cases hc23 : (p4 &&& (8 : Int32)) = (0 : Int32)
            ·  -- pc 62: (p4 &&& (8 : Int32)) = (0 : Int32)
              have pre24 : ∀ t, Steps p.tables e below (Tj17.setTop (mkF m 72 #[.val (.long q1), .second, .val (.long q2), .second, .val (.long q3), .second, .val (.int p4), .val (.long q5), .second, .val (.long q6), .second, .val (.long dd), .second, .val (.int g1), .val (.int g2), .val (.int g4), .val (.int (0 : Int32)), .unset, .unset, .unset, .unset, .unset, .unset, .unset, .unset, .unset, .unset, .unset, .unset, .unset, .unset] [])) t → Steps p.tables e below (s₁.setTop (entryFrame m #[(.long q1), (.long q2), (.long q3), (.int p4), (.long q5), (.long q6)] maxLocals)) t := fun t k => pre21 t (by
                show Steps p.tables e below (Tj17.setTop (mkF m 62 #[.val (.long q1), .second, .val (.long q2), .second, .val (.long q3), .second, .val (.int p4), .val (.long q5), .second, .val (.long q6), .second, .val (.long dd), .second, .val (.int g1), .val (.int g2), .val (.int g4), .unset, .unset, .unset, .unset, .unset, .unset, .unset, .unset, .unset, .unset, .unset, .unset, .unset, .unset, .unset] [(.int (p4 &&& (8 : Int32)))])) _
                refine XS.ifYes Xj17.here hx rfl (pc0 := 62) (pc' := 69) rfl (hb hby at_62) rfl ((if0 _ _).trans (teq hc23).1) (by decide) (by decide) ?_
                show Steps p.tables e below (Tj17.setTop (mkF m 69 #[.val (.long q1), .second, .val (.long q2), .second, .val (.long q3), .second, .val (.int p4), .val (.long q5), .second, .val (.long q6), .second, .val (.long dd), .second, .val (.int g1), .val (.int g2), .val (.int g4), .unset, .unset, .unset, .unset, .unset, .unset, .unset, .unset, .unset, .unset, .unset, .unset, .unset, .unset, .unset] [])) _
                refine XS.iconst Xj17.here hx rfl (hb hby at_69) ?_
                show Steps p.tables e below (Tj17.setTop (mkF m 70 #[.val (.long q1), .second, .val (.long q2), .second, .val (.long q3), .second, .val (.int p4), .val (.long q5), .second, .val (.long q6), .second, .val (.long dd), .second, .val (.int g1), .val (.int g2), .val (.int g4), .unset, .unset, .unset, .unset, .unset, .unset, .unset, .unset, .unset, .unset, .unset, .unset, .unset, .unset, .unset] [(.int (0 : Int32))])) _
                refine XS.istore Xj17.here hx rfl (hb hby at_70) rfl (l' := #[.val (.long q1), .second, .val (.long q2), .second, .val (.long q3), .second, .val (.int p4), .val (.long q5), .second, .val (.long q6), .second, .val (.long dd), .second, .val (.int g1), .val (.int g2), .val (.int g4), .val (.int (0 : Int32)), .unset, .unset, .unset, .unset, .unset, .unset, .unset, .unset, .unset, .unset, .unset, .unset, .unset, .unset]) rfl ?_
                exact k)
              exact kj ⟨(0 : Int32), _, Tj17, ⟨fun _ => hc23, fun _ => rfl⟩, Nj17, Xj17, ej17, pre24⟩
            ·  -- pc 62: not (p4 &&& (8 : Int32)) = (0 : Int32)
              have pre25 : ∀ t, Steps p.tables e below (Tj17.setTop (mkF m 72 #[.val (.long q1), .second, .val (.long q2), .second, .val (.long q3), .second, .val (.int p4), .val (.long q5), .second, .val (.long q6), .second, .val (.long dd), .second, .val (.int g1), .val (.int g2), .val (.int g4), .val (.int (1 : Int32)), .unset, .unset, .unset, .unset, .unset, .unset, .unset, .unset, .unset, .unset, .unset, .unset, .unset, .unset] [])) t → Steps p.tables e below (s₁.setTop (entryFrame m #[(.long q1), (.long q2), (.long q3), (.int p4), (.long q5), (.long q6)] maxLocals)) t := fun t k => pre21 t (by
                show Steps p.tables e below (Tj17.setTop (mkF m 62 #[.val (.long q1), .second, .val (.long q2), .second, .val (.long q3), .second, .val (.int p4), .val (.long q5), .second, .val (.long q6), .second, .val (.long dd), .second, .val (.int g1), .val (.int g2), .val (.int g4), .unset, .unset, .unset, .unset, .unset, .unset, .unset, .unset, .unset, .unset, .unset, .unset, .unset, .unset, .unset] [(.int (p4 &&& (8 : Int32)))])) _
                refine XS.ifNo Xj17.here hx rfl (hb hby at_62) rfl ((if0 _ _).trans (feq hc23).1) ?_
                show Steps p.tables e below (Tj17.setTop (mkF m 65 #[.val (.long q1), .second, .val (.long q2), .second, .val (.long q3), .second, .val (.int p4), .val (.long q5), .second, .val (.long q6), .second, .val (.long dd), .second, .val (.int g1), .val (.int g2), .val (.int g4), .unset, .unset, .unset, .unset, .unset, .unset, .unset, .unset, .unset, .unset, .unset, .unset, .unset, .unset, .unset] [])) _
                refine XS.iconst Xj17.here hx rfl (hb hby at_65) ?_
                show Steps p.tables e below (Tj17.setTop (mkF m 66 #[.val (.long q1), .second, .val (.long q2), .second, .val (.long q3), .second, .val (.int p4), .val (.long q5), .second, .val (.long q6), .second, .val (.long dd), .second, .val (.int g1), .val (.int g2), .val (.int g4), .unset, .unset, .unset, .unset, .unset, .unset, .unset, .unset, .unset, .unset, .unset, .unset, .unset, .unset, .unset] [(.int (1 : Int32))])) _
                refine XS.goto Xj17.here hx rfl (pc0 := 66) (pc' := 70) rfl (hb hby at_66) (by decide) (by decide) ?_
                show Steps p.tables e below (Tj17.setTop (mkF m 70 #[.val (.long q1), .second, .val (.long q2), .second, .val (.long q3), .second, .val (.int p4), .val (.long q5), .second, .val (.long q6), .second, .val (.long dd), .second, .val (.int g1), .val (.int g2), .val (.int g4), .unset, .unset, .unset, .unset, .unset, .unset, .unset, .unset, .unset, .unset, .unset, .unset, .unset, .unset, .unset] [(.int (1 : Int32))])) _
                refine XS.istore Xj17.here hx rfl (hb hby at_70) rfl (l' := #[.val (.long q1), .second, .val (.long q2), .second, .val (.long q3), .second, .val (.int p4), .val (.long q5), .second, .val (.long q6), .second, .val (.long dd), .second, .val (.int g1), .val (.int g2), .val (.int g4), .val (.int (1 : Int32)), .unset, .unset, .unset, .unset, .unset, .unset, .unset, .unset, .unset, .unset, .unset, .unset, .unset, .unset]) rfl ?_
                exact k)
              exact kj ⟨(1 : Int32), _, Tj17, ⟨fun q => absurd q (by decide), fun q => absurd q hc23⟩, Nj17, Xj17, ej17, pre25⟩
          ·  -- from the meeting at pc 72
            rintro ⟨g8, lcj22, Tj22, hg8, Nj22, Xj22, ej22, prej22⟩
            have pre26 : ∀ t, Steps p.tables e below (Tj22.setTop (mkF m 77 #[.val (.long q1), .second, .val (.long q2), .second, .val (.long q3), .second, .val (.int p4), .val (.long q5), .second, .val (.long q6), .second, .val (.long dd), .second, .val (.int g1), .val (.int g2), .val (.int g4), .val (.int g8), .unset, .unset, .unset, .unset, .unset, .unset, .unset, .unset, .unset, .unset, .unset, .unset, .unset, .unset] [(.int (p4 &&& (16 : Int32)))])) t → Steps p.tables e below (s₁.setTop (entryFrame m #[(.long q1), (.long q2), (.long q3), (.int p4), (.long q5), (.long q6)] maxLocals)) t := fun t k => prej22 t (by
              show Steps p.tables e below (Tj22.setTop (mkF m 72 #[.val (.long q1), .second, .val (.long q2), .second, .val (.long q3), .second, .val (.int p4), .val (.long q5), .second, .val (.long q6), .second, .val (.long dd), .second, .val (.int g1), .val (.int g2), .val (.int g4), .val (.int g8), .unset, .unset, .unset, .unset, .unset, .unset, .unset, .unset, .unset, .unset, .unset, .unset, .unset, .unset] [])) _
              refine XS.iload Xj22.here hx rfl (hb hby at_72) rfl ?_
              show Steps p.tables e below (Tj22.setTop (mkF m 74 #[.val (.long q1), .second, .val (.long q2), .second, .val (.long q3), .second, .val (.int p4), .val (.long q5), .second, .val (.long q6), .second, .val (.long dd), .second, .val (.int g1), .val (.int g2), .val (.int g4), .val (.int g8), .unset, .unset, .unset, .unset, .unset, .unset, .unset, .unset, .unset, .unset, .unset, .unset, .unset, .unset] [(.int p4)])) _
              refine XS.bipush Xj22.here hx rfl (hb hby at_74) ?_
              show Steps p.tables e below (Tj22.setTop (mkF m 76 #[.val (.long q1), .second, .val (.long q2), .second, .val (.long q3), .second, .val (.int p4), .val (.long q5), .second, .val (.long q6), .second, .val (.long dd), .second, .val (.int g1), .val (.int g2), .val (.int g4), .val (.int g8), .unset, .unset, .unset, .unset, .unset, .unset, .unset, .unset, .unset, .unset, .unset, .unset, .unset, .unset] [(.int (16 : Int32)), (.int p4)])) _
              refine XS.iand Xj22.here hx rfl (hb hby at_76) rfl ?_
              exact k)
            refine cps (A := ∃ (g16 : Int32) (lcj27 : List Loc) (Tj27 : State), ((g16 = (0 : Int32)) ↔ ((p4 &&& (16 : Int32)) = (0 : Int32))) ∧ Fr n0 lcj27 ∧ Stand p l e room_1 s m #[(.long q1), (.long q2), (.long q3), (.int p4), (.long q5), (.long q6)] below meth c Tj27 lcj27 0 0 ∧ Tj27.heap = h0 ∧ (∀ t, Steps p.tables e below (Tj27.setTop (mkF m 87 #[.val (.long q1), .second, .val (.long q2), .second, .val (.long q3), .second, .val (.int p4), .val (.long q5), .second, .val (.long q6), .second, .val (.long dd), .second, .val (.int g1), .val (.int g2), .val (.int g4), .val (.int g8), .val (.int g16), .unset, .unset, .unset, .unset, .unset, .unset, .unset, .unset, .unset, .unset, .unset, .unset, .unset] [])) t → Steps p.tables e below (s₁.setTop (entryFrame m #[(.long q1), (.long q2), (.long q3), (.int p4), (.long q5), (.long q6)] maxLocals)) t)) (fun kj => ?_) ?_
            ·  -- to the meeting at pc 87
              by_cases hc28 : (p4 &&& (16 : Int32)) = (0 : Int32)
              ·  -- pc 77: (p4 &&& (16 : Int32)) = (0 : Int32)
                have pre29 : ∀ t, Steps p.tables e below (Tj22.setTop (mkF m 87 #[.val (.long q1), .second, .val (.long q2), .second, .val (.long q3), .second, .val (.int p4), .val (.long q5), .second, .val (.long q6), .second, .val (.long dd), .second, .val (.int g1), .val (.int g2), .val (.int g4), .val (.int g8), .val (.int (0 : Int32)), .unset, .unset, .unset, .unset, .unset, .unset, .unset, .unset, .unset, .unset, .unset, .unset, .unset] [])) t → Steps p.tables e below (s₁.setTop (entryFrame m #[(.long q1), (.long q2), (.long q3), (.int p4), (.long q5), (.long q6)] maxLocals)) t := fun t k => pre26 t (by
                  show Steps p.tables e below (Tj22.setTop (mkF m 77 #[.val (.long q1), .second, .val (.long q2), .second, .val (.long q3), .second, .val (.int p4), .val (.long q5), .second, .val (.long q6), .second, .val (.long dd), .second, .val (.int g1), .val (.int g2), .val (.int g4), .val (.int g8), .unset, .unset, .unset, .unset, .unset, .unset, .unset, .unset, .unset, .unset, .unset, .unset, .unset, .unset] [(.int (p4 &&& (16 : Int32)))])) _
                  refine XS.ifYes Xj22.here hx rfl (pc0 := 77) (pc' := 84) rfl (hb hby at_77) rfl ((if0 _ _).trans (teq hc28).1) (by decide) (by decide) ?_
                  show Steps p.tables e below (Tj22.setTop (mkF m 84 #[.val (.long q1), .second, .val (.long q2), .second, .val (.long q3), .second, .val (.int p4), .val (.long q5), .second, .val (.long q6), .second, .val (.long dd), .second, .val (.int g1), .val (.int g2), .val (.int g4), .val (.int g8), .unset, .unset, .unset, .unset, .unset, .unset, .unset, .unset, .unset, .unset, .unset, .unset, .unset, .unset] [])) _
                  refine XS.iconst Xj22.here hx rfl (hb hby at_84) ?_
                  show Steps p.tables e below (Tj22.setTop (mkF m 85 #[.val (.long q1), .second, .val (.long q2), .second, .val (.long q3), .second, .val (.int p4), .val (.long q5), .second, .val (.long q6), .second, .val (.long dd), .second, .val (.int g1), .val (.int g2), .val (.int g4), .val (.int g8), .unset, .unset, .unset, .unset, .unset, .unset, .unset, .unset, .unset, .unset, .unset, .unset, .unset, .unset] [(.int (0 : Int32))])) _
                  refine XS.istore Xj22.here hx rfl (hb hby at_85) rfl (l' := #[.val (.long q1), .second, .val (.long q2), .second, .val (.long q3), .second, .val (.int p4), .val (.long q5), .second, .val (.long q6), .second, .val (.long dd), .second, .val (.int g1), .val (.int g2), .val (.int g4), .val (.int g8), .val (.int (0 : Int32)), .unset, .unset, .unset, .unset, .unset, .unset, .unset, .unset, .unset, .unset, .unset, .unset, .unset]) rfl ?_
                  exact k)
                exact kj ⟨(0 : Int32), _, Tj22, ⟨fun _ => hc28, fun _ => rfl⟩, Nj22, Xj22, ej22, pre29⟩
              ·  -- pc 77: not (p4 &&& (16 : Int32)) = (0 : Int32)
                have pre30 : ∀ t, Steps p.tables e below (Tj22.setTop (mkF m 87 #[.val (.long q1), .second, .val (.long q2), .second, .val (.long q3), .second, .val (.int p4), .val (.long q5), .second, .val (.long q6), .second, .val (.long dd), .second, .val (.int g1), .val (.int g2), .val (.int g4), .val (.int g8), .val (.int (1 : Int32)), .unset, .unset, .unset, .unset, .unset, .unset, .unset, .unset, .unset, .unset, .unset, .unset, .unset] [])) t → Steps p.tables e below (s₁.setTop (entryFrame m #[(.long q1), (.long q2), (.long q3), (.int p4), (.long q5), (.long q6)] maxLocals)) t := fun t k => pre26 t (by
                  show Steps p.tables e below (Tj22.setTop (mkF m 77 #[.val (.long q1), .second, .val (.long q2), .second, .val (.long q3), .second, .val (.int p4), .val (.long q5), .second, .val (.long q6), .second, .val (.long dd), .second, .val (.int g1), .val (.int g2), .val (.int g4), .val (.int g8), .unset, .unset, .unset, .unset, .unset, .unset, .unset, .unset, .unset, .unset, .unset, .unset, .unset, .unset] [(.int (p4 &&& (16 : Int32)))])) _
                  refine XS.ifNo Xj22.here hx rfl (hb hby at_77) rfl ((if0 _ _).trans (feq hc28).1) ?_
                  show Steps p.tables e below (Tj22.setTop (mkF m 80 #[.val (.long q1), .second, .val (.long q2), .second, .val (.long q3), .second, .val (.int p4), .val (.long q5), .second, .val (.long q6), .second, .val (.long dd), .second, .val (.int g1), .val (.int g2), .val (.int g4), .val (.int g8), .unset, .unset, .unset, .unset, .unset, .unset, .unset, .unset, .unset, .unset, .unset, .unset, .unset, .unset] [])) _
                  refine XS.iconst Xj22.here hx rfl (hb hby at_80) ?_
                  show Steps p.tables e below (Tj22.setTop (mkF m 81 #[.val (.long q1), .second, .val (.long q2), .second, .val (.long q3), .second, .val (.int p4), .val (.long q5), .second, .val (.long q6), .second, .val (.long dd), .second, .val (.int g1), .val (.int g2), .val (.int g4), .val (.int g8), .unset, .unset, .unset, .unset, .unset, .unset, .unset, .unset, .unset, .unset, .unset, .unset, .unset, .unset] [(.int (1 : Int32))])) _
                  refine XS.goto Xj22.here hx rfl (pc0 := 81) (pc' := 85) rfl (hb hby at_81) (by decide) (by decide) ?_
                  show Steps p.tables e below (Tj22.setTop (mkF m 85 #[.val (.long q1), .second, .val (.long q2), .second, .val (.long q3), .second, .val (.int p4), .val (.long q5), .second, .val (.long q6), .second, .val (.long dd), .second, .val (.int g1), .val (.int g2), .val (.int g4), .val (.int g8), .unset, .unset, .unset, .unset, .unset, .unset, .unset, .unset, .unset, .unset, .unset, .unset, .unset, .unset] [(.int (1 : Int32))])) _
                  refine XS.istore Xj22.here hx rfl (hb hby at_85) rfl (l' := #[.val (.long q1), .second, .val (.long q2), .second, .val (.long q3), .second, .val (.int p4), .val (.long q5), .second, .val (.long q6), .second, .val (.long dd), .second, .val (.int g1), .val (.int g2), .val (.int g4), .val (.int g8), .val (.int (1 : Int32)), .unset, .unset, .unset, .unset, .unset, .unset, .unset, .unset, .unset, .unset, .unset, .unset, .unset]) rfl ?_
                  exact k)
                exact kj ⟨(1 : Int32), _, Tj22, ⟨fun q => absurd q (by decide), fun q => absurd q hc28⟩, Nj22, Xj22, ej22, pre30⟩
            ·  -- from the meeting at pc 87
              rintro ⟨g16, lcj27, Tj27, hg16, Nj27, Xj27, ej27, prej27⟩
              have pre31 : ∀ t, Steps p.tables e below (Tj27.setTop (mkF m 89 #[.val (.long q1), .second, .val (.long q2), .second, .val (.long q3), .second, .val (.int p4), .val (.long q5), .second, .val (.long q6), .second, .val (.long dd), .second, .val (.int g1), .val (.int g2), .val (.int g4), .val (.int g8), .val (.int g16), .unset, .unset, .unset, .unset, .unset, .unset, .unset, .unset, .unset, .unset, .unset, .unset, .unset] [(.int g1)])) t → Steps p.tables e below (s₁.setTop (entryFrame m #[(.long q1), (.long q2), (.long q3), (.int p4), (.long q5), (.long q6)] maxLocals)) t := fun t k => prej27 t (by
                show Steps p.tables e below (Tj27.setTop (mkF m 87 #[.val (.long q1), .second, .val (.long q2), .second, .val (.long q3), .second, .val (.int p4), .val (.long q5), .second, .val (.long q6), .second, .val (.long dd), .second, .val (.int g1), .val (.int g2), .val (.int g4), .val (.int g8), .val (.int g16), .unset, .unset, .unset, .unset, .unset, .unset, .unset, .unset, .unset, .unset, .unset, .unset, .unset] [])) _
                refine XS.iload Xj27.here hx rfl (hb hby at_87) rfl ?_
                exact k)
              refine cps (A := ∃ (o1 : Int64) (lcj32 : List Loc) (Tj32 : State), ((o1 = (0 : Int64)) ↔ ((p4 &&& (1 : Int32)) = (0 : Int32))) ∧ Fr n0 lcj32 ∧ Stand p l e room_1 s m #[(.long q1), (.long q2), (.long q3), (.int p4), (.long q5), (.long q6)] below meth c Tj32 lcj32 0 0 ∧ Tj32.heap = h0 ∧ (∀ t, Steps p.tables e below (Tj32.setTop (mkF m 100 #[.val (.long q1), .second, .val (.long q2), .second, .val (.long q3), .second, .val (.int p4), .val (.long q5), .second, .val (.long q6), .second, .val (.long dd), .second, .val (.int g1), .val (.int g2), .val (.int g4), .val (.int g8), .val (.int g16), .val (.long o1), .second, .unset, .unset, .unset, .unset, .unset, .unset, .unset, .unset, .unset, .unset, .unset] [])) t → Steps p.tables e below (s₁.setTop (entryFrame m #[(.long q1), (.long q2), (.long q3), (.int p4), (.long q5), (.long q6)] maxLocals)) t)) (fun kj => ?_) ?_
              ·  -- to the meeting at pc 100
                by_cases hc33 : g1 = (0 : Int32)
                ·  -- pc 89: g1 = (0 : Int32)
                  have pre34 : ∀ t, Steps p.tables e below (Tj27.setTop (mkF m 100 #[.val (.long q1), .second, .val (.long q2), .second, .val (.long q3), .second, .val (.int p4), .val (.long q5), .second, .val (.long q6), .second, .val (.long dd), .second, .val (.int g1), .val (.int g2), .val (.int g4), .val (.int g8), .val (.int g16), .val (.long (0 : Int64)), .second, .unset, .unset, .unset, .unset, .unset, .unset, .unset, .unset, .unset, .unset, .unset] [])) t → Steps p.tables e below (s₁.setTop (entryFrame m #[(.long q1), (.long q2), (.long q3), (.int p4), (.long q5), (.long q6)] maxLocals)) t := fun t k => pre31 t (by
                    show Steps p.tables e below (Tj27.setTop (mkF m 89 #[.val (.long q1), .second, .val (.long q2), .second, .val (.long q3), .second, .val (.int p4), .val (.long q5), .second, .val (.long q6), .second, .val (.long dd), .second, .val (.int g1), .val (.int g2), .val (.int g4), .val (.int g8), .val (.int g16), .unset, .unset, .unset, .unset, .unset, .unset, .unset, .unset, .unset, .unset, .unset, .unset, .unset] [(.int g1)])) _
                    refine XS.ifYes Xj27.here hx rfl (pc0 := 89) (pc' := 97) rfl (hb hby at_89) rfl ((if0 _ _).trans (teq hc33).1) (by decide) (by decide) ?_
                    show Steps p.tables e below (Tj27.setTop (mkF m 97 #[.val (.long q1), .second, .val (.long q2), .second, .val (.long q3), .second, .val (.int p4), .val (.long q5), .second, .val (.long q6), .second, .val (.long dd), .second, .val (.int g1), .val (.int g2), .val (.int g4), .val (.int g8), .val (.int g16), .unset, .unset, .unset, .unset, .unset, .unset, .unset, .unset, .unset, .unset, .unset, .unset, .unset] [])) _
                    refine XS.lconst Xj27.here hx rfl (hb hby at_97) ?_
                    show Steps p.tables e below (Tj27.setTop (mkF m 98 #[.val (.long q1), .second, .val (.long q2), .second, .val (.long q3), .second, .val (.int p4), .val (.long q5), .second, .val (.long q6), .second, .val (.long dd), .second, .val (.int g1), .val (.int g2), .val (.int g4), .val (.int g8), .val (.int g16), .unset, .unset, .unset, .unset, .unset, .unset, .unset, .unset, .unset, .unset, .unset, .unset, .unset] [(.long (0 : Int64))])) _
                    refine XS.lstore Xj27.here hx rfl (hb hby at_98) rfl (l' := #[.val (.long q1), .second, .val (.long q2), .second, .val (.long q3), .second, .val (.int p4), .val (.long q5), .second, .val (.long q6), .second, .val (.long dd), .second, .val (.int g1), .val (.int g2), .val (.int g4), .val (.int g8), .val (.int g16), .val (.long (0 : Int64)), .second, .unset, .unset, .unset, .unset, .unset, .unset, .unset, .unset, .unset, .unset, .unset]) rfl ?_
                    exact k)
                  exact kj ⟨(0 : Int64), _, Tj27, ⟨fun _ => hg1.mp hc33, fun _ => rfl⟩, Nj27, Xj27, ej27, pre34⟩
                ·  -- pc 89: not g1 = (0 : Int32)
                  have pre35 : ∀ t, Steps p.tables e below (Tj27.setTop (mkF m 100 #[.val (.long q1), .second, .val (.long q2), .second, .val (.long q3), .second, .val (.int p4), .val (.long q5), .second, .val (.long q6), .second, .val (.long dd), .second, .val (.int g1), .val (.int g2), .val (.int g4), .val (.int g8), .val (.int g16), .val (.long dd), .second, .unset, .unset, .unset, .unset, .unset, .unset, .unset, .unset, .unset, .unset, .unset] [])) t → Steps p.tables e below (s₁.setTop (entryFrame m #[(.long q1), (.long q2), (.long q3), (.int p4), (.long q5), (.long q6)] maxLocals)) t := fun t k => pre31 t (by
                    show Steps p.tables e below (Tj27.setTop (mkF m 89 #[.val (.long q1), .second, .val (.long q2), .second, .val (.long q3), .second, .val (.int p4), .val (.long q5), .second, .val (.long q6), .second, .val (.long dd), .second, .val (.int g1), .val (.int g2), .val (.int g4), .val (.int g8), .val (.int g16), .unset, .unset, .unset, .unset, .unset, .unset, .unset, .unset, .unset, .unset, .unset, .unset, .unset] [(.int g1)])) _
                    refine XS.ifNo Xj27.here hx rfl (hb hby at_89) rfl ((if0 _ _).trans (feq hc33).1) ?_
                    show Steps p.tables e below (Tj27.setTop (mkF m 92 #[.val (.long q1), .second, .val (.long q2), .second, .val (.long q3), .second, .val (.int p4), .val (.long q5), .second, .val (.long q6), .second, .val (.long dd), .second, .val (.int g1), .val (.int g2), .val (.int g4), .val (.int g8), .val (.int g16), .unset, .unset, .unset, .unset, .unset, .unset, .unset, .unset, .unset, .unset, .unset, .unset, .unset] [])) _
                    refine XS.lload Xj27.here hx rfl (hb hby at_92) rfl ?_
                    show Steps p.tables e below (Tj27.setTop (mkF m 94 #[.val (.long q1), .second, .val (.long q2), .second, .val (.long q3), .second, .val (.int p4), .val (.long q5), .second, .val (.long q6), .second, .val (.long dd), .second, .val (.int g1), .val (.int g2), .val (.int g4), .val (.int g8), .val (.int g16), .unset, .unset, .unset, .unset, .unset, .unset, .unset, .unset, .unset, .unset, .unset, .unset, .unset] [(.long dd)])) _
                    refine XS.goto Xj27.here hx rfl (pc0 := 94) (pc' := 98) rfl (hb hby at_94) (by decide) (by decide) ?_
                    show Steps p.tables e below (Tj27.setTop (mkF m 98 #[.val (.long q1), .second, .val (.long q2), .second, .val (.long q3), .second, .val (.int p4), .val (.long q5), .second, .val (.long q6), .second, .val (.long dd), .second, .val (.int g1), .val (.int g2), .val (.int g4), .val (.int g8), .val (.int g16), .unset, .unset, .unset, .unset, .unset, .unset, .unset, .unset, .unset, .unset, .unset, .unset, .unset] [(.long dd)])) _
                    refine XS.lstore Xj27.here hx rfl (hb hby at_98) rfl (l' := #[.val (.long q1), .second, .val (.long q2), .second, .val (.long q3), .second, .val (.int p4), .val (.long q5), .second, .val (.long q6), .second, .val (.long dd), .second, .val (.int g1), .val (.int g2), .val (.int g4), .val (.int g8), .val (.int g16), .val (.long dd), .second, .unset, .unset, .unset, .unset, .unset, .unset, .unset, .unset, .unset, .unset, .unset]) rfl ?_
                    exact k)
                  exact kj ⟨dd, _, Tj27, ⟨fun q => absurd q hdd, fun q => absurd (hg1.mpr q) hc33⟩, Nj27, Xj27, ej27, pre35⟩
              ·  -- from the meeting at pc 100
                rintro ⟨o1, lcj32, Tj32, ho1, Nj32, Xj32, ej32, prej32⟩
                have pre36 : ∀ t, Steps p.tables e below (Tj32.setTop (mkF m 102 #[.val (.long q1), .second, .val (.long q2), .second, .val (.long q3), .second, .val (.int p4), .val (.long q5), .second, .val (.long q6), .second, .val (.long dd), .second, .val (.int g1), .val (.int g2), .val (.int g4), .val (.int g8), .val (.int g16), .val (.long o1), .second, .unset, .unset, .unset, .unset, .unset, .unset, .unset, .unset, .unset, .unset, .unset] [(.int g2)])) t → Steps p.tables e below (s₁.setTop (entryFrame m #[(.long q1), (.long q2), (.long q3), (.int p4), (.long q5), (.long q6)] maxLocals)) t := fun t k => prej32 t (by
                  show Steps p.tables e below (Tj32.setTop (mkF m 100 #[.val (.long q1), .second, .val (.long q2), .second, .val (.long q3), .second, .val (.int p4), .val (.long q5), .second, .val (.long q6), .second, .val (.long dd), .second, .val (.int g1), .val (.int g2), .val (.int g4), .val (.int g8), .val (.int g16), .val (.long o1), .second, .unset, .unset, .unset, .unset, .unset, .unset, .unset, .unset, .unset, .unset, .unset] [])) _
                  refine XS.iload Xj32.here hx rfl (hb hby at_100) rfl ?_
                  exact k)
                refine cps (A := ∃ (o2 : Int64) (lcj37 : List Loc) (Tj37 : State), ((o2 = (0 : Int64)) ↔ ((p4 &&& (2 : Int32)) = (0 : Int32))) ∧ Fr n0 lcj37 ∧ Stand p l e room_1 s m #[(.long q1), (.long q2), (.long q3), (.int p4), (.long q5), (.long q6)] below meth c Tj37 lcj37 0 0 ∧ Tj37.heap = h0 ∧ (∀ t, Steps p.tables e below (Tj37.setTop (mkF m 113 #[.val (.long q1), .second, .val (.long q2), .second, .val (.long q3), .second, .val (.int p4), .val (.long q5), .second, .val (.long q6), .second, .val (.long dd), .second, .val (.int g1), .val (.int g2), .val (.int g4), .val (.int g8), .val (.int g16), .val (.long o1), .second, .val (.long o2), .second, .unset, .unset, .unset, .unset, .unset, .unset, .unset, .unset, .unset] [])) t → Steps p.tables e below (s₁.setTop (entryFrame m #[(.long q1), (.long q2), (.long q3), (.int p4), (.long q5), (.long q6)] maxLocals)) t)) (fun kj => ?_) ?_
                ·  -- to the meeting at pc 113
                  by_cases hc38 : g2 = (0 : Int32)
                  ·  -- pc 102: g2 = (0 : Int32)
                    have pre39 : ∀ t, Steps p.tables e below (Tj32.setTop (mkF m 113 #[.val (.long q1), .second, .val (.long q2), .second, .val (.long q3), .second, .val (.int p4), .val (.long q5), .second, .val (.long q6), .second, .val (.long dd), .second, .val (.int g1), .val (.int g2), .val (.int g4), .val (.int g8), .val (.int g16), .val (.long o1), .second, .val (.long (0 : Int64)), .second, .unset, .unset, .unset, .unset, .unset, .unset, .unset, .unset, .unset] [])) t → Steps p.tables e below (s₁.setTop (entryFrame m #[(.long q1), (.long q2), (.long q3), (.int p4), (.long q5), (.long q6)] maxLocals)) t := fun t k => pre36 t (by
                      show Steps p.tables e below (Tj32.setTop (mkF m 102 #[.val (.long q1), .second, .val (.long q2), .second, .val (.long q3), .second, .val (.int p4), .val (.long q5), .second, .val (.long q6), .second, .val (.long dd), .second, .val (.int g1), .val (.int g2), .val (.int g4), .val (.int g8), .val (.int g16), .val (.long o1), .second, .unset, .unset, .unset, .unset, .unset, .unset, .unset, .unset, .unset, .unset, .unset] [(.int g2)])) _
                      refine XS.ifYes Xj32.here hx rfl (pc0 := 102) (pc' := 110) rfl (hb hby at_102) rfl ((if0 _ _).trans (teq hc38).1) (by decide) (by decide) ?_
                      show Steps p.tables e below (Tj32.setTop (mkF m 110 #[.val (.long q1), .second, .val (.long q2), .second, .val (.long q3), .second, .val (.int p4), .val (.long q5), .second, .val (.long q6), .second, .val (.long dd), .second, .val (.int g1), .val (.int g2), .val (.int g4), .val (.int g8), .val (.int g16), .val (.long o1), .second, .unset, .unset, .unset, .unset, .unset, .unset, .unset, .unset, .unset, .unset, .unset] [])) _
                      refine XS.lconst Xj32.here hx rfl (hb hby at_110) ?_
                      show Steps p.tables e below (Tj32.setTop (mkF m 111 #[.val (.long q1), .second, .val (.long q2), .second, .val (.long q3), .second, .val (.int p4), .val (.long q5), .second, .val (.long q6), .second, .val (.long dd), .second, .val (.int g1), .val (.int g2), .val (.int g4), .val (.int g8), .val (.int g16), .val (.long o1), .second, .unset, .unset, .unset, .unset, .unset, .unset, .unset, .unset, .unset, .unset, .unset] [(.long (0 : Int64))])) _
                      refine XS.lstore Xj32.here hx rfl (hb hby at_111) rfl (l' := #[.val (.long q1), .second, .val (.long q2), .second, .val (.long q3), .second, .val (.int p4), .val (.long q5), .second, .val (.long q6), .second, .val (.long dd), .second, .val (.int g1), .val (.int g2), .val (.int g4), .val (.int g8), .val (.int g16), .val (.long o1), .second, .val (.long (0 : Int64)), .second, .unset, .unset, .unset, .unset, .unset, .unset, .unset, .unset, .unset]) rfl ?_
                      exact k)
                    exact kj ⟨(0 : Int64), _, Tj32, ⟨fun _ => hg2.mp hc38, fun _ => rfl⟩, Nj32, Xj32, ej32, pre39⟩
                  ·  -- pc 102: not g2 = (0 : Int32)
                    have pre40 : ∀ t, Steps p.tables e below (Tj32.setTop (mkF m 113 #[.val (.long q1), .second, .val (.long q2), .second, .val (.long q3), .second, .val (.int p4), .val (.long q5), .second, .val (.long q6), .second, .val (.long dd), .second, .val (.int g1), .val (.int g2), .val (.int g4), .val (.int g8), .val (.int g16), .val (.long o1), .second, .val (.long dd), .second, .unset, .unset, .unset, .unset, .unset, .unset, .unset, .unset, .unset] [])) t → Steps p.tables e below (s₁.setTop (entryFrame m #[(.long q1), (.long q2), (.long q3), (.int p4), (.long q5), (.long q6)] maxLocals)) t := fun t k => pre36 t (by
                      show Steps p.tables e below (Tj32.setTop (mkF m 102 #[.val (.long q1), .second, .val (.long q2), .second, .val (.long q3), .second, .val (.int p4), .val (.long q5), .second, .val (.long q6), .second, .val (.long dd), .second, .val (.int g1), .val (.int g2), .val (.int g4), .val (.int g8), .val (.int g16), .val (.long o1), .second, .unset, .unset, .unset, .unset, .unset, .unset, .unset, .unset, .unset, .unset, .unset] [(.int g2)])) _
                      refine XS.ifNo Xj32.here hx rfl (hb hby at_102) rfl ((if0 _ _).trans (feq hc38).1) ?_
                      show Steps p.tables e below (Tj32.setTop (mkF m 105 #[.val (.long q1), .second, .val (.long q2), .second, .val (.long q3), .second, .val (.int p4), .val (.long q5), .second, .val (.long q6), .second, .val (.long dd), .second, .val (.int g1), .val (.int g2), .val (.int g4), .val (.int g8), .val (.int g16), .val (.long o1), .second, .unset, .unset, .unset, .unset, .unset, .unset, .unset, .unset, .unset, .unset, .unset] [])) _
                      refine XS.lload Xj32.here hx rfl (hb hby at_105) rfl ?_
                      show Steps p.tables e below (Tj32.setTop (mkF m 107 #[.val (.long q1), .second, .val (.long q2), .second, .val (.long q3), .second, .val (.int p4), .val (.long q5), .second, .val (.long q6), .second, .val (.long dd), .second, .val (.int g1), .val (.int g2), .val (.int g4), .val (.int g8), .val (.int g16), .val (.long o1), .second, .unset, .unset, .unset, .unset, .unset, .unset, .unset, .unset, .unset, .unset, .unset] [(.long dd)])) _
                      refine XS.goto Xj32.here hx rfl (pc0 := 107) (pc' := 111) rfl (hb hby at_107) (by decide) (by decide) ?_
                      show Steps p.tables e below (Tj32.setTop (mkF m 111 #[.val (.long q1), .second, .val (.long q2), .second, .val (.long q3), .second, .val (.int p4), .val (.long q5), .second, .val (.long q6), .second, .val (.long dd), .second, .val (.int g1), .val (.int g2), .val (.int g4), .val (.int g8), .val (.int g16), .val (.long o1), .second, .unset, .unset, .unset, .unset, .unset, .unset, .unset, .unset, .unset, .unset, .unset] [(.long dd)])) _
                      refine XS.lstore Xj32.here hx rfl (hb hby at_111) rfl (l' := #[.val (.long q1), .second, .val (.long q2), .second, .val (.long q3), .second, .val (.int p4), .val (.long q5), .second, .val (.long q6), .second, .val (.long dd), .second, .val (.int g1), .val (.int g2), .val (.int g4), .val (.int g8), .val (.int g16), .val (.long o1), .second, .val (.long dd), .second, .unset, .unset, .unset, .unset, .unset, .unset, .unset, .unset, .unset]) rfl ?_
                      exact k)
                    exact kj ⟨dd, _, Tj32, ⟨fun q => absurd q hdd, fun q => absurd (hg2.mpr q) hc38⟩, Nj32, Xj32, ej32, pre40⟩
                ·  -- from the meeting at pc 113
                  rintro ⟨o2, lcj37, Tj37, ho2, Nj37, Xj37, ej37, prej37⟩
                  have pre41 : ∀ t, Steps p.tables e below (Tj37.setTop (mkF m 115 #[.val (.long q1), .second, .val (.long q2), .second, .val (.long q3), .second, .val (.int p4), .val (.long q5), .second, .val (.long q6), .second, .val (.long dd), .second, .val (.int g1), .val (.int g2), .val (.int g4), .val (.int g8), .val (.int g16), .val (.long o1), .second, .val (.long o2), .second, .unset, .unset, .unset, .unset, .unset, .unset, .unset, .unset, .unset] [(.int g4)])) t → Steps p.tables e below (s₁.setTop (entryFrame m #[(.long q1), (.long q2), (.long q3), (.int p4), (.long q5), (.long q6)] maxLocals)) t := fun t k => prej37 t (by
                    show Steps p.tables e below (Tj37.setTop (mkF m 113 #[.val (.long q1), .second, .val (.long q2), .second, .val (.long q3), .second, .val (.int p4), .val (.long q5), .second, .val (.long q6), .second, .val (.long dd), .second, .val (.int g1), .val (.int g2), .val (.int g4), .val (.int g8), .val (.int g16), .val (.long o1), .second, .val (.long o2), .second, .unset, .unset, .unset, .unset, .unset, .unset, .unset, .unset, .unset] [])) _
                    refine XS.iload Xj37.here hx rfl (hb hby at_113) rfl ?_
                    exact k)
                  refine cps (A := ∃ (o4 : Int64) (lcj42 : List Loc) (Tj42 : State), ((o4 = (0 : Int64)) ↔ ((p4 &&& (4 : Int32)) = (0 : Int32))) ∧ Fr n0 lcj42 ∧ Stand p l e room_1 s m #[(.long q1), (.long q2), (.long q3), (.int p4), (.long q5), (.long q6)] below meth c Tj42 lcj42 0 0 ∧ Tj42.heap = h0 ∧ (∀ t, Steps p.tables e below (Tj42.setTop (mkF m 126 #[.val (.long q1), .second, .val (.long q2), .second, .val (.long q3), .second, .val (.int p4), .val (.long q5), .second, .val (.long q6), .second, .val (.long dd), .second, .val (.int g1), .val (.int g2), .val (.int g4), .val (.int g8), .val (.int g16), .val (.long o1), .second, .val (.long o2), .second, .val (.long o4), .second, .unset, .unset, .unset, .unset, .unset, .unset, .unset] [])) t → Steps p.tables e below (s₁.setTop (entryFrame m #[(.long q1), (.long q2), (.long q3), (.int p4), (.long q5), (.long q6)] maxLocals)) t)) (fun kj => ?_) ?_
                  ·  -- to the meeting at pc 126
                    by_cases hc43 : g4 = (0 : Int32)
                    ·  -- pc 115: g4 = (0 : Int32)
                      have pre44 : ∀ t, Steps p.tables e below (Tj37.setTop (mkF m 126 #[.val (.long q1), .second, .val (.long q2), .second, .val (.long q3), .second, .val (.int p4), .val (.long q5), .second, .val (.long q6), .second, .val (.long dd), .second, .val (.int g1), .val (.int g2), .val (.int g4), .val (.int g8), .val (.int g16), .val (.long o1), .second, .val (.long o2), .second, .val (.long (0 : Int64)), .second, .unset, .unset, .unset, .unset, .unset, .unset, .unset] [])) t → Steps p.tables e below (s₁.setTop (entryFrame m #[(.long q1), (.long q2), (.long q3), (.int p4), (.long q5), (.long q6)] maxLocals)) t := fun t k => pre41 t (by
                        show Steps p.tables e below (Tj37.setTop (mkF m 115 #[.val (.long q1), .second, .val (.long q2), .second, .val (.long q3), .second, .val (.int p4), .val (.long q5), .second, .val (.long q6), .second, .val (.long dd), .second, .val (.int g1), .val (.int g2), .val (.int g4), .val (.int g8), .val (.int g16), .val (.long o1), .second, .val (.long o2), .second, .unset, .unset, .unset, .unset, .unset, .unset, .unset, .unset, .unset] [(.int g4)])) _
                        refine XS.ifYes Xj37.here hx rfl (pc0 := 115) (pc' := 123) rfl (hb hby at_115) rfl ((if0 _ _).trans (teq hc43).1) (by decide) (by decide) ?_
                        show Steps p.tables e below (Tj37.setTop (mkF m 123 #[.val (.long q1), .second, .val (.long q2), .second, .val (.long q3), .second, .val (.int p4), .val (.long q5), .second, .val (.long q6), .second, .val (.long dd), .second, .val (.int g1), .val (.int g2), .val (.int g4), .val (.int g8), .val (.int g16), .val (.long o1), .second, .val (.long o2), .second, .unset, .unset, .unset, .unset, .unset, .unset, .unset, .unset, .unset] [])) _
                        refine XS.lconst Xj37.here hx rfl (hb hby at_123) ?_
                        show Steps p.tables e below (Tj37.setTop (mkF m 124 #[.val (.long q1), .second, .val (.long q2), .second, .val (.long q3), .second, .val (.int p4), .val (.long q5), .second, .val (.long q6), .second, .val (.long dd), .second, .val (.int g1), .val (.int g2), .val (.int g4), .val (.int g8), .val (.int g16), .val (.long o1), .second, .val (.long o2), .second, .unset, .unset, .unset, .unset, .unset, .unset, .unset, .unset, .unset] [(.long (0 : Int64))])) _
                        refine XS.lstore Xj37.here hx rfl (hb hby at_124) rfl (l' := #[.val (.long q1), .second, .val (.long q2), .second, .val (.long q3), .second, .val (.int p4), .val (.long q5), .second, .val (.long q6), .second, .val (.long dd), .second, .val (.int g1), .val (.int g2), .val (.int g4), .val (.int g8), .val (.int g16), .val (.long o1), .second, .val (.long o2), .second, .val (.long (0 : Int64)), .second, .unset, .unset, .unset, .unset, .unset, .unset, .unset]) rfl ?_
                        exact k)
                      exact kj ⟨(0 : Int64), _, Tj37, ⟨fun _ => hg4.mp hc43, fun _ => rfl⟩, Nj37, Xj37, ej37, pre44⟩
                    ·  -- pc 115: not g4 = (0 : Int32)
                      have pre45 : ∀ t, Steps p.tables e below (Tj37.setTop (mkF m 126 #[.val (.long q1), .second, .val (.long q2), .second, .val (.long q3), .second, .val (.int p4), .val (.long q5), .second, .val (.long q6), .second, .val (.long dd), .second, .val (.int g1), .val (.int g2), .val (.int g4), .val (.int g8), .val (.int g16), .val (.long o1), .second, .val (.long o2), .second, .val (.long dd), .second, .unset, .unset, .unset, .unset, .unset, .unset, .unset] [])) t → Steps p.tables e below (s₁.setTop (entryFrame m #[(.long q1), (.long q2), (.long q3), (.int p4), (.long q5), (.long q6)] maxLocals)) t := fun t k => pre41 t (by
                        show Steps p.tables e below (Tj37.setTop (mkF m 115 #[.val (.long q1), .second, .val (.long q2), .second, .val (.long q3), .second, .val (.int p4), .val (.long q5), .second, .val (.long q6), .second, .val (.long dd), .second, .val (.int g1), .val (.int g2), .val (.int g4), .val (.int g8), .val (.int g16), .val (.long o1), .second, .val (.long o2), .second, .unset, .unset, .unset, .unset, .unset, .unset, .unset, .unset, .unset] [(.int g4)])) _
                        refine XS.ifNo Xj37.here hx rfl (hb hby at_115) rfl ((if0 _ _).trans (feq hc43).1) ?_
                        show Steps p.tables e below (Tj37.setTop (mkF m 118 #[.val (.long q1), .second, .val (.long q2), .second, .val (.long q3), .second, .val (.int p4), .val (.long q5), .second, .val (.long q6), .second, .val (.long dd), .second, .val (.int g1), .val (.int g2), .val (.int g4), .val (.int g8), .val (.int g16), .val (.long o1), .second, .val (.long o2), .second, .unset, .unset, .unset, .unset, .unset, .unset, .unset, .unset, .unset] [])) _
                        refine XS.lload Xj37.here hx rfl (hb hby at_118) rfl ?_
                        show Steps p.tables e below (Tj37.setTop (mkF m 120 #[.val (.long q1), .second, .val (.long q2), .second, .val (.long q3), .second, .val (.int p4), .val (.long q5), .second, .val (.long q6), .second, .val (.long dd), .second, .val (.int g1), .val (.int g2), .val (.int g4), .val (.int g8), .val (.int g16), .val (.long o1), .second, .val (.long o2), .second, .unset, .unset, .unset, .unset, .unset, .unset, .unset, .unset, .unset] [(.long dd)])) _
                        refine XS.goto Xj37.here hx rfl (pc0 := 120) (pc' := 124) rfl (hb hby at_120) (by decide) (by decide) ?_
                        show Steps p.tables e below (Tj37.setTop (mkF m 124 #[.val (.long q1), .second, .val (.long q2), .second, .val (.long q3), .second, .val (.int p4), .val (.long q5), .second, .val (.long q6), .second, .val (.long dd), .second, .val (.int g1), .val (.int g2), .val (.int g4), .val (.int g8), .val (.int g16), .val (.long o1), .second, .val (.long o2), .second, .unset, .unset, .unset, .unset, .unset, .unset, .unset, .unset, .unset] [(.long dd)])) _
                        refine XS.lstore Xj37.here hx rfl (hb hby at_124) rfl (l' := #[.val (.long q1), .second, .val (.long q2), .second, .val (.long q3), .second, .val (.int p4), .val (.long q5), .second, .val (.long q6), .second, .val (.long dd), .second, .val (.int g1), .val (.int g2), .val (.int g4), .val (.int g8), .val (.int g16), .val (.long o1), .second, .val (.long o2), .second, .val (.long dd), .second, .unset, .unset, .unset, .unset, .unset, .unset, .unset]) rfl ?_
                        exact k)
                      exact kj ⟨dd, _, Tj37, ⟨fun q => absurd q hdd, fun q => absurd (hg4.mpr q) hc43⟩, Nj37, Xj37, ej37, pre45⟩
                  ·  -- from the meeting at pc 126
                    rintro ⟨o4, lcj42, Tj42, ho4, Nj42, Xj42, ej42, prej42⟩
                    have pre46 : ∀ t, Steps p.tables e below (Tj42.setTop (mkF m 128 #[.val (.long q1), .second, .val (.long q2), .second, .val (.long q3), .second, .val (.int p4), .val (.long q5), .second, .val (.long q6), .second, .val (.long dd), .second, .val (.int g1), .val (.int g2), .val (.int g4), .val (.int g8), .val (.int g16), .val (.long o1), .second, .val (.long o2), .second, .val (.long o4), .second, .unset, .unset, .unset, .unset, .unset, .unset, .unset] [(.int g8)])) t → Steps p.tables e below (s₁.setTop (entryFrame m #[(.long q1), (.long q2), (.long q3), (.int p4), (.long q5), (.long q6)] maxLocals)) t := fun t k => prej42 t (by
                      show Steps p.tables e below (Tj42.setTop (mkF m 126 #[.val (.long q1), .second, .val (.long q2), .second, .val (.long q3), .second, .val (.int p4), .val (.long q5), .second, .val (.long q6), .second, .val (.long dd), .second, .val (.int g1), .val (.int g2), .val (.int g4), .val (.int g8), .val (.int g16), .val (.long o1), .second, .val (.long o2), .second, .val (.long o4), .second, .unset, .unset, .unset, .unset, .unset, .unset, .unset] [])) _
                      refine XS.iload Xj42.here hx rfl (hb hby at_126) rfl ?_
                      exact k)
                    refine cps (A := ∃ (o8 : Int64) (lcj47 : List Loc) (Tj47 : State), ((o8 = (0 : Int64)) ↔ ((p4 &&& (8 : Int32)) = (0 : Int32))) ∧ Fr n0 lcj47 ∧ Stand p l e room_1 s m #[(.long q1), (.long q2), (.long q3), (.int p4), (.long q5), (.long q6)] below meth c Tj47 lcj47 0 0 ∧ Tj47.heap = h0 ∧ (∀ t, Steps p.tables e below (Tj47.setTop (mkF m 139 #[.val (.long q1), .second, .val (.long q2), .second, .val (.long q3), .second, .val (.int p4), .val (.long q5), .second, .val (.long q6), .second, .val (.long dd), .second, .val (.int g1), .val (.int g2), .val (.int g4), .val (.int g8), .val (.int g16), .val (.long o1), .second, .val (.long o2), .second, .val (.long o4), .second, .val (.long o8), .second, .unset, .unset, .unset, .unset, .unset] [])) t → Steps p.tables e below (s₁.setTop (entryFrame m #[(.long q1), (.long q2), (.long q3), (.int p4), (.long q5), (.long q6)] maxLocals)) t)) (fun kj => ?_) ?_
                    ·  -- to the meeting at pc 139
                      by_cases hc48 : g8 = (0 : Int32)
                      ·  -- pc 128: g8 = (0 : Int32)
                        have pre49 : ∀ t, Steps p.tables e below (Tj42.setTop (mkF m 139 #[.val (.long q1), .second, .val (.long q2), .second, .val (.long q3), .second, .val (.int p4), .val (.long q5), .second, .val (.long q6), .second, .val (.long dd), .second, .val (.int g1), .val (.int g2), .val (.int g4), .val (.int g8), .val (.int g16), .val (.long o1), .second, .val (.long o2), .second, .val (.long o4), .second, .val (.long (0 : Int64)), .second, .unset, .unset, .unset, .unset, .unset] [])) t → Steps p.tables e below (s₁.setTop (entryFrame m #[(.long q1), (.long q2), (.long q3), (.int p4), (.long q5), (.long q6)] maxLocals)) t := fun t k => pre46 t (by
                          show Steps p.tables e below (Tj42.setTop (mkF m 128 #[.val (.long q1), .second, .val (.long q2), .second, .val (.long q3), .second, .val (.int p4), .val (.long q5), .second, .val (.long q6), .second, .val (.long dd), .second, .val (.int g1), .val (.int g2), .val (.int g4), .val (.int g8), .val (.int g16), .val (.long o1), .second, .val (.long o2), .second, .val (.long o4), .second, .unset, .unset, .unset, .unset, .unset, .unset, .unset] [(.int g8)])) _
                          refine XS.ifYes Xj42.here hx rfl (pc0 := 128) (pc' := 136) rfl (hb hby at_128) rfl ((if0 _ _).trans (teq hc48).1) (by decide) (by decide) ?_
                          show Steps p.tables e below (Tj42.setTop (mkF m 136 #[.val (.long q1), .second, .val (.long q2), .second, .val (.long q3), .second, .val (.int p4), .val (.long q5), .second, .val (.long q6), .second, .val (.long dd), .second, .val (.int g1), .val (.int g2), .val (.int g4), .val (.int g8), .val (.int g16), .val (.long o1), .second, .val (.long o2), .second, .val (.long o4), .second, .unset, .unset, .unset, .unset, .unset, .unset, .unset] [])) _
                          refine XS.lconst Xj42.here hx rfl (hb hby at_136) ?_
                          show Steps p.tables e below (Tj42.setTop (mkF m 137 #[.val (.long q1), .second, .val (.long q2), .second, .val (.long q3), .second, .val (.int p4), .val (.long q5), .second, .val (.long q6), .second, .val (.long dd), .second, .val (.int g1), .val (.int g2), .val (.int g4), .val (.int g8), .val (.int g16), .val (.long o1), .second, .val (.long o2), .second, .val (.long o4), .second, .unset, .unset, .unset, .unset, .unset, .unset, .unset] [(.long (0 : Int64))])) _
                          refine XS.lstore Xj42.here hx rfl (hb hby at_137) rfl (l' := #[.val (.long q1), .second, .val (.long q2), .second, .val (.long q3), .second, .val (.int p4), .val (.long q5), .second, .val (.long q6), .second, .val (.long dd), .second, .val (.int g1), .val (.int g2), .val (.int g4), .val (.int g8), .val (.int g16), .val (.long o1), .second, .val (.long o2), .second, .val (.long o4), .second, .val (.long (0 : Int64)), .second, .unset, .unset, .unset, .unset, .unset]) rfl ?_
                          exact k)
                        exact kj ⟨(0 : Int64), _, Tj42, ⟨fun _ => hg8.mp hc48, fun _ => rfl⟩, Nj42, Xj42, ej42, pre49⟩
                      ·  -- pc 128: not g8 = (0 : Int32)
                        have pre50 : ∀ t, Steps p.tables e below (Tj42.setTop (mkF m 139 #[.val (.long q1), .second, .val (.long q2), .second, .val (.long q3), .second, .val (.int p4), .val (.long q5), .second, .val (.long q6), .second, .val (.long dd), .second, .val (.int g1), .val (.int g2), .val (.int g4), .val (.int g8), .val (.int g16), .val (.long o1), .second, .val (.long o2), .second, .val (.long o4), .second, .val (.long dd), .second, .unset, .unset, .unset, .unset, .unset] [])) t → Steps p.tables e below (s₁.setTop (entryFrame m #[(.long q1), (.long q2), (.long q3), (.int p4), (.long q5), (.long q6)] maxLocals)) t := fun t k => pre46 t (by
                          show Steps p.tables e below (Tj42.setTop (mkF m 128 #[.val (.long q1), .second, .val (.long q2), .second, .val (.long q3), .second, .val (.int p4), .val (.long q5), .second, .val (.long q6), .second, .val (.long dd), .second, .val (.int g1), .val (.int g2), .val (.int g4), .val (.int g8), .val (.int g16), .val (.long o1), .second, .val (.long o2), .second, .val (.long o4), .second, .unset, .unset, .unset, .unset, .unset, .unset, .unset] [(.int g8)])) _
                          refine XS.ifNo Xj42.here hx rfl (hb hby at_128) rfl ((if0 _ _).trans (feq hc48).1) ?_
                          show Steps p.tables e below (Tj42.setTop (mkF m 131 #[.val (.long q1), .second, .val (.long q2), .second, .val (.long q3), .second, .val (.int p4), .val (.long q5), .second, .val (.long q6), .second, .val (.long dd), .second, .val (.int g1), .val (.int g2), .val (.int g4), .val (.int g8), .val (.int g16), .val (.long o1), .second, .val (.long o2), .second, .val (.long o4), .second, .unset, .unset, .unset, .unset, .unset, .unset, .unset] [])) _
                          refine XS.lload Xj42.here hx rfl (hb hby at_131) rfl ?_
                          show Steps p.tables e below (Tj42.setTop (mkF m 133 #[.val (.long q1), .second, .val (.long q2), .second, .val (.long q3), .second, .val (.int p4), .val (.long q5), .second, .val (.long q6), .second, .val (.long dd), .second, .val (.int g1), .val (.int g2), .val (.int g4), .val (.int g8), .val (.int g16), .val (.long o1), .second, .val (.long o2), .second, .val (.long o4), .second, .unset, .unset, .unset, .unset, .unset, .unset, .unset] [(.long dd)])) _
                          refine XS.goto Xj42.here hx rfl (pc0 := 133) (pc' := 137) rfl (hb hby at_133) (by decide) (by decide) ?_
                          show Steps p.tables e below (Tj42.setTop (mkF m 137 #[.val (.long q1), .second, .val (.long q2), .second, .val (.long q3), .second, .val (.int p4), .val (.long q5), .second, .val (.long q6), .second, .val (.long dd), .second, .val (.int g1), .val (.int g2), .val (.int g4), .val (.int g8), .val (.int g16), .val (.long o1), .second, .val (.long o2), .second, .val (.long o4), .second, .unset, .unset, .unset, .unset, .unset, .unset, .unset] [(.long dd)])) _
                          refine XS.lstore Xj42.here hx rfl (hb hby at_137) rfl (l' := #[.val (.long q1), .second, .val (.long q2), .second, .val (.long q3), .second, .val (.int p4), .val (.long q5), .second, .val (.long q6), .second, .val (.long dd), .second, .val (.int g1), .val (.int g2), .val (.int g4), .val (.int g8), .val (.int g16), .val (.long o1), .second, .val (.long o2), .second, .val (.long o4), .second, .val (.long dd), .second, .unset, .unset, .unset, .unset, .unset]) rfl ?_
                          exact k)
                        exact kj ⟨dd, _, Tj42, ⟨fun q => absurd q hdd, fun q => absurd (hg8.mpr q) hc48⟩, Nj42, Xj42, ej42, pre50⟩
                    ·  -- from the meeting at pc 139
                      rintro ⟨o8, lcj47, Tj47, ho8, Nj47, Xj47, ej47, prej47⟩
                      have pre51 : ∀ t, Steps p.tables e below (Tj47.setTop (mkF m 141 #[.val (.long q1), .second, .val (.long q2), .second, .val (.long q3), .second, .val (.int p4), .val (.long q5), .second, .val (.long q6), .second, .val (.long dd), .second, .val (.int g1), .val (.int g2), .val (.int g4), .val (.int g8), .val (.int g16), .val (.long o1), .second, .val (.long o2), .second, .val (.long o4), .second, .val (.long o8), .second, .unset, .unset, .unset, .unset, .unset] [(.int g16)])) t → Steps p.tables e below (s₁.setTop (entryFrame m #[(.long q1), (.long q2), (.long q3), (.int p4), (.long q5), (.long q6)] maxLocals)) t := fun t k => prej47 t (by
                        show Steps p.tables e below (Tj47.setTop (mkF m 139 #[.val (.long q1), .second, .val (.long q2), .second, .val (.long q3), .second, .val (.int p4), .val (.long q5), .second, .val (.long q6), .second, .val (.long dd), .second, .val (.int g1), .val (.int g2), .val (.int g4), .val (.int g8), .val (.int g16), .val (.long o1), .second, .val (.long o2), .second, .val (.long o4), .second, .val (.long o8), .second, .unset, .unset, .unset, .unset, .unset] [])) _
                        refine XS.iload Xj47.here hx rfl (hb hby at_139) rfl ?_
                        exact k)
                      refine cps (A := ∃ (rem : Int64) (lcj52 : List Loc) (Tj52 : State), ((rem = (q1 - q2)) ↔ ((p4 &&& (16 : Int32)) = (0 : Int32))) ∧ Fr n0 lcj52 ∧ Stand p l e room_1 s m #[(.long q1), (.long q2), (.long q3), (.int p4), (.long q5), (.long q6)] below meth c Tj52 lcj52 0 0 ∧ Tj52.heap = h0 ∧ (∀ t, Steps p.tables e below (Tj52.setTop (mkF m 158 #[.val (.long q1), .second, .val (.long q2), .second, .val (.long q3), .second, .val (.int p4), .val (.long q5), .second, .val (.long q6), .second, .val (.long dd), .second, .val (.int g1), .val (.int g2), .val (.int g4), .val (.int g8), .val (.int g16), .val (.long o1), .second, .val (.long o2), .second, .val (.long o4), .second, .val (.long o8), .second, .val (.long rem), .second, .unset, .unset, .unset] [])) t → Steps p.tables e below (s₁.setTop (entryFrame m #[(.long q1), (.long q2), (.long q3), (.int p4), (.long q5), (.long q6)] maxLocals)) t)) (fun kj => ?_) ?_
                      ·  -- to the meeting at pc 158
                        by_cases hc53 : g16 = (0 : Int32)
                        ·  -- pc 141: g16 = (0 : Int32)
                          have pre54 : ∀ t, Steps p.tables e below (Tj47.setTop (mkF m 158 #[.val (.long q1), .second, .val (.long q2), .second, .val (.long q3), .second, .val (.int p4), .val (.long q5), .second, .val (.long q6), .second, .val (.long dd), .second, .val (.int g1), .val (.int g2), .val (.int g4), .val (.int g8), .val (.int g16), .val (.long o1), .second, .val (.long o2), .second, .val (.long o4), .second, .val (.long o8), .second, .val (.long (q1 - q2)), .second, .unset, .unset, .unset] [])) t → Steps p.tables e below (s₁.setTop (entryFrame m #[(.long q1), (.long q2), (.long q3), (.int p4), (.long q5), (.long q6)] maxLocals)) t := fun t k => pre51 t (by
                            show Steps p.tables e below (Tj47.setTop (mkF m 141 #[.val (.long q1), .second, .val (.long q2), .second, .val (.long q3), .second, .val (.int p4), .val (.long q5), .second, .val (.long q6), .second, .val (.long dd), .second, .val (.int g1), .val (.int g2), .val (.int g4), .val (.int g8), .val (.int g16), .val (.long o1), .second, .val (.long o2), .second, .val (.long o4), .second, .val (.long o8), .second, .unset, .unset, .unset, .unset, .unset] [(.int g16)])) _
                            refine XS.ifYes Xj47.here hx rfl (pc0 := 141) (pc' := 153) rfl (hb hby at_141) rfl ((if0 _ _).trans (teq hc53).1) (by decide) (by decide) ?_
                            show Steps p.tables e below (Tj47.setTop (mkF m 153 #[.val (.long q1), .second, .val (.long q2), .second, .val (.long q3), .second, .val (.int p4), .val (.long q5), .second, .val (.long q6), .second, .val (.long dd), .second, .val (.int g1), .val (.int g2), .val (.int g4), .val (.int g8), .val (.int g16), .val (.long o1), .second, .val (.long o2), .second, .val (.long o4), .second, .val (.long o8), .second, .unset, .unset, .unset, .unset, .unset] [])) _
                            refine XS.lloadN Xj47.here hx rfl (hb hby at_153) rfl ?_
                            show Steps p.tables e below (Tj47.setTop (mkF m 154 #[.val (.long q1), .second, .val (.long q2), .second, .val (.long q3), .second, .val (.int p4), .val (.long q5), .second, .val (.long q6), .second, .val (.long dd), .second, .val (.int g1), .val (.int g2), .val (.int g4), .val (.int g8), .val (.int g16), .val (.long o1), .second, .val (.long o2), .second, .val (.long o4), .second, .val (.long o8), .second, .unset, .unset, .unset, .unset, .unset] [(.long q1)])) _
                            refine XS.lloadN Xj47.here hx rfl (hb hby at_154) rfl ?_
                            show Steps p.tables e below (Tj47.setTop (mkF m 155 #[.val (.long q1), .second, .val (.long q2), .second, .val (.long q3), .second, .val (.int p4), .val (.long q5), .second, .val (.long q6), .second, .val (.long dd), .second, .val (.int g1), .val (.int g2), .val (.int g4), .val (.int g8), .val (.int g16), .val (.long o1), .second, .val (.long o2), .second, .val (.long o4), .second, .val (.long o8), .second, .unset, .unset, .unset, .unset, .unset] [(.long q2), (.long q1)])) _
                            refine XS.lsub Xj47.here hx rfl (hb hby at_155) rfl ?_
                            show Steps p.tables e below (Tj47.setTop (mkF m 156 #[.val (.long q1), .second, .val (.long q2), .second, .val (.long q3), .second, .val (.int p4), .val (.long q5), .second, .val (.long q6), .second, .val (.long dd), .second, .val (.int g1), .val (.int g2), .val (.int g4), .val (.int g8), .val (.int g16), .val (.long o1), .second, .val (.long o2), .second, .val (.long o4), .second, .val (.long o8), .second, .unset, .unset, .unset, .unset, .unset] [(.long (q1 - q2))])) _
                            refine XS.lstore Xj47.here hx rfl (hb hby at_156) rfl (l' := #[.val (.long q1), .second, .val (.long q2), .second, .val (.long q3), .second, .val (.int p4), .val (.long q5), .second, .val (.long q6), .second, .val (.long dd), .second, .val (.int g1), .val (.int g2), .val (.int g4), .val (.int g8), .val (.int g16), .val (.long o1), .second, .val (.long o2), .second, .val (.long o4), .second, .val (.long o8), .second, .val (.long (q1 - q2)), .second, .unset, .unset, .unset]) rfl ?_
                            exact k)
                          exact kj ⟨(q1 - q2), _, Tj47, ⟨fun _ => hg16.mp hc53, fun _ => rfl⟩, Nj47, Xj47, ej47, pre54⟩
                        ·  -- pc 141: not g16 = (0 : Int32)
                          have pre55 : ∀ t, Steps p.tables e below (Tj47.setTop (mkF m 158 #[.val (.long q1), .second, .val (.long q2), .second, .val (.long q3), .second, .val (.int p4), .val (.long q5), .second, .val (.long q6), .second, .val (.long dd), .second, .val (.int g1), .val (.int g2), .val (.int g4), .val (.int g8), .val (.int g16), .val (.long o1), .second, .val (.long o2), .second, .val (.long o4), .second, .val (.long o8), .second, .val (.long ((q1 - q2) + dd)), .second, .unset, .unset, .unset] [])) t → Steps p.tables e below (s₁.setTop (entryFrame m #[(.long q1), (.long q2), (.long q3), (.int p4), (.long q5), (.long q6)] maxLocals)) t := fun t k => pre51 t (by
                            show Steps p.tables e below (Tj47.setTop (mkF m 141 #[.val (.long q1), .second, .val (.long q2), .second, .val (.long q3), .second, .val (.int p4), .val (.long q5), .second, .val (.long q6), .second, .val (.long dd), .second, .val (.int g1), .val (.int g2), .val (.int g4), .val (.int g8), .val (.int g16), .val (.long o1), .second, .val (.long o2), .second, .val (.long o4), .second, .val (.long o8), .second, .unset, .unset, .unset, .unset, .unset] [(.int g16)])) _
                            refine XS.ifNo Xj47.here hx rfl (hb hby at_141) rfl ((if0 _ _).trans (feq hc53).1) ?_
                            show Steps p.tables e below (Tj47.setTop (mkF m 144 #[.val (.long q1), .second, .val (.long q2), .second, .val (.long q3), .second, .val (.int p4), .val (.long q5), .second, .val (.long q6), .second, .val (.long dd), .second, .val (.int g1), .val (.int g2), .val (.int g4), .val (.int g8), .val (.int g16), .val (.long o1), .second, .val (.long o2), .second, .val (.long o4), .second, .val (.long o8), .second, .unset, .unset, .unset, .unset, .unset] [])) _
                            refine XS.lloadN Xj47.here hx rfl (hb hby at_144) rfl ?_
                            show Steps p.tables e below (Tj47.setTop (mkF m 145 #[.val (.long q1), .second, .val (.long q2), .second, .val (.long q3), .second, .val (.int p4), .val (.long q5), .second, .val (.long q6), .second, .val (.long dd), .second, .val (.int g1), .val (.int g2), .val (.int g4), .val (.int g8), .val (.int g16), .val (.long o1), .second, .val (.long o2), .second, .val (.long o4), .second, .val (.long o8), .second, .unset, .unset, .unset, .unset, .unset] [(.long q1)])) _
                            refine XS.lloadN Xj47.here hx rfl (hb hby at_145) rfl ?_
                            show Steps p.tables e below (Tj47.setTop (mkF m 146 #[.val (.long q1), .second, .val (.long q2), .second, .val (.long q3), .second, .val (.int p4), .val (.long q5), .second, .val (.long q6), .second, .val (.long dd), .second, .val (.int g1), .val (.int g2), .val (.int g4), .val (.int g8), .val (.int g16), .val (.long o1), .second, .val (.long o2), .second, .val (.long o4), .second, .val (.long o8), .second, .unset, .unset, .unset, .unset, .unset] [(.long q2), (.long q1)])) _
                            refine XS.lsub Xj47.here hx rfl (hb hby at_146) rfl ?_
                            show Steps p.tables e below (Tj47.setTop (mkF m 147 #[.val (.long q1), .second, .val (.long q2), .second, .val (.long q3), .second, .val (.int p4), .val (.long q5), .second, .val (.long q6), .second, .val (.long dd), .second, .val (.int g1), .val (.int g2), .val (.int g4), .val (.int g8), .val (.int g16), .val (.long o1), .second, .val (.long o2), .second, .val (.long o4), .second, .val (.long o8), .second, .unset, .unset, .unset, .unset, .unset] [(.long (q1 - q2))])) _
                            refine XS.lload Xj47.here hx rfl (hb hby at_147) rfl ?_
                            show Steps p.tables e below (Tj47.setTop (mkF m 149 #[.val (.long q1), .second, .val (.long q2), .second, .val (.long q3), .second, .val (.int p4), .val (.long q5), .second, .val (.long q6), .second, .val (.long dd), .second, .val (.int g1), .val (.int g2), .val (.int g4), .val (.int g8), .val (.int g16), .val (.long o1), .second, .val (.long o2), .second, .val (.long o4), .second, .val (.long o8), .second, .unset, .unset, .unset, .unset, .unset] [(.long dd), (.long (q1 - q2))])) _
                            refine XS.ladd Xj47.here hx rfl (hb hby at_149) rfl ?_
                            show Steps p.tables e below (Tj47.setTop (mkF m 150 #[.val (.long q1), .second, .val (.long q2), .second, .val (.long q3), .second, .val (.int p4), .val (.long q5), .second, .val (.long q6), .second, .val (.long dd), .second, .val (.int g1), .val (.int g2), .val (.int g4), .val (.int g8), .val (.int g16), .val (.long o1), .second, .val (.long o2), .second, .val (.long o4), .second, .val (.long o8), .second, .unset, .unset, .unset, .unset, .unset] [(.long ((q1 - q2) + dd))])) _
                            refine XS.goto Xj47.here hx rfl (pc0 := 150) (pc' := 156) rfl (hb hby at_150) (by decide) (by decide) ?_
                            show Steps p.tables e below (Tj47.setTop (mkF m 156 #[.val (.long q1), .second, .val (.long q2), .second, .val (.long q3), .second, .val (.int p4), .val (.long q5), .second, .val (.long q6), .second, .val (.long dd), .second, .val (.int g1), .val (.int g2), .val (.int g4), .val (.int g8), .val (.int g16), .val (.long o1), .second, .val (.long o2), .second, .val (.long o4), .second, .val (.long o8), .second, .unset, .unset, .unset, .unset, .unset] [(.long ((q1 - q2) + dd))])) _
                            refine XS.lstore Xj47.here hx rfl (hb hby at_156) rfl (l' := #[.val (.long q1), .second, .val (.long q2), .second, .val (.long q3), .second, .val (.int p4), .val (.long q5), .second, .val (.long q6), .second, .val (.long dd), .second, .val (.int g1), .val (.int g2), .val (.int g4), .val (.int g8), .val (.int g16), .val (.long o1), .second, .val (.long o2), .second, .val (.long o4), .second, .val (.long o8), .second, .val (.long ((q1 - q2) + dd)), .second, .unset, .unset, .unset]) rfl ?_
                            exact k)
                          exact kj ⟨((q1 - q2) + dd), _, Tj47, ⟨fun q => absurd q (own_sum _ _ hdd), fun q => absurd (hg16.mpr q) hc53⟩, Nj47, Xj47, ej47, pre55⟩
                      ·  -- from the meeting at pc 158
                        rintro ⟨rem, lcj52, Tj52, hrem, Nj52, Xj52, ej52, prej52⟩
                        obtain ⟨T56, h56, k56, X56, e56, E56, A56, st56⟩ := newP Xj52 hx hZ (hw _ (List.mem_of_getElem? (i := 0) rfl)) ej52 (g := (mkF m 159 #[.val (.long q1), .second, .val (.long q2), .second, .val (.long q3), .second, .val (.int p4), .val (.long q5), .second, .val (.long q6), .second, .val (.long dd), .second, .val (.int g1), .val (.int g2), .val (.int g4), .val (.int g8), .val (.int g16), .val (.long o1), .second, .val (.long o2), .second, .val (.long o4), .second, .val (.long o8), .second, .val (.long rem), .second, .unset, .unset, .unset] [(.int (1 : Int32))])) rfl (hb hby at_159) rfl (by decide) (cap := 1) (by decide) (by decide) (by decide) (by decide)
                        obtain ⟨b56, g56⟩ : ∃ z, z = h0.size := ⟨_, rfl⟩
                        rw [← g56] at A56 st56
                        have g_b56 : n0 ≤ b56 := Nat.le_trans Z0 (Nat.le_of_eq g56.symm)
                        have f57 := O0.ext E56
                        have zs58 : n0 ≤ h56.size := Nat.le_trans Z0 E56.1
                        have V_b56 : Arv Z h56 b56 k56 .char (1 : Int32) [(.int (0 : Int32))] (.int (0 : Int32)) := (Arv.new A56 (by decide)).pad (pad_rep [] (.int (0 : Int32)) 1)
                        obtain ⟨car59, Aar59, qar59, Sar59, Nar59, Har59, Gar59⟩ := V_b56
                        have hinar59 : ¬ ((0 : Int32) < 0 ∨ car59.slots.size ≤ ((0 : Int32)).toNatClampNeg) := inb_of Sar59 ⟨by decide, by decide⟩
                        obtain ⟨T60, h60, X60, e60, W60, st60⟩ := stC X56 hx hZ e56 Aar59 (j := (0 : Int32)) hinar59 (g := (mkF m 174 #[.val (.long q1), .second, .val (.long q2), .second, .val (.long q3), .second, .val (.int p4), .val (.long q5), .second, .val (.long q6), .second, .val (.long dd), .second, .val (.int g1), .val (.int g2), .val (.int g4), .val (.int g8), .val (.int g16), .val (.long o1), .second, .val (.long o2), .second, .val (.long o4), .second, .val (.long o8), .second, .val (.long rem), .second, .val (.ref b56), .unset, .unset] [(.int (((q6 &&& (255 : Int64)).toInt32).toUInt32.toUInt16.toUInt32.toInt32)), (.int (0 : Int32)), (.ref b56)])) rfl rfl (hb hby at_174)
                        have V60 : Arv Z h60 b56 k56 .char (1 : Int32) [(.int (nar .char (((q6 &&& (255 : Int64)).toInt32).toUInt32.toUInt16.toUInt32.toInt32)))] (.int (0 : Int32)) := Arv.set Aar59 qar59 Sar59 Nar59 Har59 Gar59 (fits_nar_char _) W60 0 rfl (Nat.le_of_ble_eq_true rfl)
                        have f61 := f57.wr W60 g_b56
                        have zs63 : n0 ≤ h60.size := Nat.le_trans zs58 (Keep.of_wr W60).1
                        have N64 := Fr.snoc X60 Nj52 g_b56
                        obtain ⟨T65, h65, X65, e65, E65, A65, D65, -, st65⟩ := newO X60 hx hZ hown (hw _ (List.mem_of_getElem? (i := 2) rfl)) (hw _ (List.mem_of_getElem? (i := 3) rfl)) (hw _ (List.mem_of_getElem? (i := 4) rfl)) e60 (g := (mkF m 175 #[.val (.long q1), .second, .val (.long q2), .second, .val (.long q3), .second, .val (.int p4), .val (.long q5), .second, .val (.long q6), .second, .val (.long dd), .second, .val (.int g1), .val (.int g2), .val (.int g4), .val (.int g8), .val (.int g16), .val (.long o1), .second, .val (.long o2), .second, .val (.long o4), .second, .val (.long o8), .second, .val (.long rem), .second, .val (.ref b56), .unset, .unset] [])) rfl (hb hby at_175) (by decide) (by decide)
                        obtain ⟨b65, g65⟩ : ∃ z, z = h60.size := ⟨_, rfl⟩
                        rw [← g65] at A65 D65 st65
                        have g_b65 : n0 ≤ b65 := Nat.le_trans zs63 (Nat.le_of_eq g65.symm)
                        have ne66 : b56 ≠ b65 := Nat.ne_of_lt (Nat.lt_of_lt_of_le V60.lt (Nat.le_of_eq g65.symm))
                        have f67 := f61.ext E65
                        have f68 := V60.ext E65
                        have zs69 : n0 ≤ h65.size := Nat.le_trans zs63 E65.1
                        have F_pool_b65 : Fld Z h65 b65 "com/example/strict_quota/strictquota/Audit" "pool" "Ljava/lang/String;" .null := D65 (Or.inr (hw _ (List.mem_of_getElem? (i := 44) rfl))) (ty := (.object "java/lang/String")) (by decide)
                        have F_capacity_b65 : Fld Z h65 b65 "com/example/strict_quota/strictquota/Audit" "capacity" "J" (.long (0 : Int64)) := D65 (Or.inr (hw _ (List.mem_of_getElem? (i := 46) rfl))) (ty := .long) (by decide)
                        have F_ceiling_b65 : Fld Z h65 b65 "com/example/strict_quota/strictquota/Audit" "ceiling" "J" (.long (0 : Int64)) := D65 (Or.inr (hw _ (List.mem_of_getElem? (i := 48) rfl))) (ty := .long) (by decide)
                        have F_issued_b65 : Fld Z h65 b65 "com/example/strict_quota/strictquota/Audit" "issued" "J" (.long (0 : Int64)) := D65 (Or.inr (hw _ (List.mem_of_getElem? (i := 50) rfl))) (ty := .long) (by decide)
                        have F_remaining_b65 : Fld Z h65 b65 "com/example/strict_quota/strictquota/Audit" "remaining" "J" (.long (0 : Int64)) := D65 (Or.inr (hw _ (List.mem_of_getElem? (i := 52) rfl))) (ty := .long) (by decide)
                        have F_grants_b65 : Fld Z h65 b65 "com/example/strict_quota/strictquota/Audit" "grants" "J" (.long (0 : Int64)) := D65 (Or.inr (hw _ (List.mem_of_getElem? (i := 54) rfl))) (ty := .long) (by decide)
                        have F_returned_b65 : Fld Z h65 b65 "com/example/strict_quota/strictquota/Audit" "returned" "J" (.long (0 : Int64)) := D65 (Or.inr (hw _ (List.mem_of_getElem? (i := 56) rfl))) (ty := .long) (by decide)
                        have F_holders_b65 : Fld Z h65 b65 "com/example/strict_quota/strictquota/Audit" "holders" "J" (.long (0 : Int64)) := D65 (Or.inr (hw _ (List.mem_of_getElem? (i := 58) rfl))) (ty := .long) (by decide)
                        have F_maxPerHolder_b65 : Fld Z h65 b65 "com/example/strict_quota/strictquota/Audit" "maxPerHolder" "J" (.long (0 : Int64)) := D65 (Or.inr (hw _ (List.mem_of_getElem? (i := 60) rfl))) (ty := .long) (by decide)
                        have F_overCapacity_b65 : Fld Z h65 b65 "com/example/strict_quota/strictquota/Audit" "overCapacity" "J" (.long (0 : Int64)) := D65 (Or.inr (hw _ (List.mem_of_getElem? (i := 62) rfl))) (ty := .long) (by decide)
                        have F_overCeiling_b65 : Fld Z h65 b65 "com/example/strict_quota/strictquota/Audit" "overCeiling" "J" (.long (0 : Int64)) := D65 (Or.inr (hw _ (List.mem_of_getElem? (i := 64) rfl))) (ty := .long) (by decide)
                        have F_sequenceFirst_b65 : Fld Z h65 b65 "com/example/strict_quota/strictquota/Audit" "sequenceFirst" "J" (.long (0 : Int64)) := D65 (Or.inr (hw _ (List.mem_of_getElem? (i := 66) rfl))) (ty := .long) (by decide)
                        have F_sequenceLast_b65 : Fld Z h65 b65 "com/example/strict_quota/strictquota/Audit" "sequenceLast" "J" (.long (0 : Int64)) := D65 (Or.inr (hw _ (List.mem_of_getElem? (i := 68) rfl))) (ty := .long) (by decide)
                        have F_sequenceMissing_b65 : Fld Z h65 b65 "com/example/strict_quota/strictquota/Audit" "sequenceMissing" "J" (.long (0 : Int64)) := D65 (Or.inr (hw _ (List.mem_of_getElem? (i := 70) rfl))) (ty := .long) (by decide)
                        have F_sequenceRepeated_b65 : Fld Z h65 b65 "com/example/strict_quota/strictquota/Audit" "sequenceRepeated" "J" (.long (0 : Int64)) := D65 (Or.inr (hw _ (List.mem_of_getElem? (i := 72) rfl))) (ty := .long) (by decide)
                        obtain ⟨T70, h70, X70, e70, E70, A70, D70, -, st70⟩ := newO X65 hx hZ hown (hw _ (List.mem_of_getElem? (i := 5) rfl)) (hw _ (List.mem_of_getElem? (i := 6) rfl)) (hw _ (List.mem_of_getElem? (i := 7) rfl)) e65 (g := (mkF m 179 #[.val (.long q1), .second, .val (.long q2), .second, .val (.long q3), .second, .val (.int p4), .val (.long q5), .second, .val (.long q6), .second, .val (.long dd), .second, .val (.int g1), .val (.int g2), .val (.int g4), .val (.int g8), .val (.int g16), .val (.long o1), .second, .val (.long o2), .second, .val (.long o4), .second, .val (.long o8), .second, .val (.long rem), .second, .val (.ref b56), .unset, .unset] [(.ref b65), (.ref b65)])) rfl (hb hby at_179) (by decide) (by decide)
                        obtain ⟨b70, g70⟩ : ∃ z, z = h65.size := ⟨_, rfl⟩
                        rw [← g70] at A70 D70 st70
                        have g_b70 : n0 ≤ b70 := Nat.le_trans zs69 (Nat.le_of_eq g70.symm)
                        have ne71 : b56 ≠ b70 := Nat.ne_of_lt (Nat.lt_of_lt_of_le f68.lt (Nat.le_of_eq g70.symm))
                        have ne72 : b65 ≠ b70 := Nat.ne_of_lt (Nat.lt_of_lt_of_le A65.lt (Nat.le_of_eq g70.symm))
                        have f73 := f67.ext E70
                        have f74 := f68.ext E70
                        have f75 := A65.ext E70
                        have f76 := F_pool_b65.ext E70
                        have f77 := F_capacity_b65.ext E70
                        have f78 := F_ceiling_b65.ext E70
                        have f79 := F_issued_b65.ext E70
                        have f80 := F_remaining_b65.ext E70
                        have f81 := F_grants_b65.ext E70
                        have f82 := F_returned_b65.ext E70
                        have f83 := F_holders_b65.ext E70
                        have f84 := F_maxPerHolder_b65.ext E70
                        have f85 := F_overCapacity_b65.ext E70
                        have f86 := F_overCeiling_b65.ext E70
                        have f87 := F_sequenceFirst_b65.ext E70
                        have f88 := F_sequenceLast_b65.ext E70
                        have f89 := F_sequenceMissing_b65.ext E70
                        have f90 := F_sequenceRepeated_b65.ext E70
                        have zs91 : n0 ≤ h70.size := Nat.le_trans zs69 E70.1
                        have F_coder_b70 : Fld Z h70 b70 "java/lang/String" "coder" "B" (.int (0 : Int32)) := D70 (Or.inr (hw _ (List.mem_of_getElem? (i := 31) rfl))) (ty := .byte) (by decide)
                        have F_value_b70 : Fld Z h70 b70 "java/lang/String" "value" "[B" .null := D70 (Or.inr (hw _ (List.mem_of_getElem? (i := 33) rfl))) (ty := (.array .byte)) (by decide)
                        have hws92 : ∀ d ∈ StrChars.Road.words, d.before a0 Z = true := fun d hd => hw d ((by decide +kernel : ∀ d ∈ StrChars.Road.words, d ∈ tables_1) d hd)
                        have hlat92 : ∀ c ∈ ([(nar .char (((q6 &&& (255 : Int64)).toInt32).toUInt32.toUInt16.toUInt32.toInt32))] : List Int32), ¬ c < 0 ∧ ¬ (255 : Int32) < c := own_l8 q6
                        obtain ⟨_, _, ⟨T92, L92, k92, n92⟩, -, X92, ⟨Lc92, hQ92, l92, y92, z92⟩, st92⟩ := X70.specialBack hx (y := (⟨"java/lang/String", "<init>", "([C)V"⟩ : MethodName)) rfl hown (mvT hZ (hw _ (List.mem_of_getElem? (i := 8) rfl))) (mvT hZ (hw _ (List.mem_of_getElem? (i := 9) rfl))) (mvT hZ (hw _ (List.mem_of_getElem? (i := 10) rfl))) (by decide) (StrChars.Road.backV (W := 3) hZ hws92 (kI := 4) (hw _ (List.mem_of_getElem? (i := 6) rfl)) (cs := [(nar .char (((q6 &&& (255 : Int64)).toInt32).toUInt32.toUInt16.toUInt32.toInt32))]) (bs := [((nar .char (((q6 &&& (255 : Int64)).toInt32).toUInt32.toUInt16.toUInt32.toInt32))).toInt8.toInt32]) (n := 1) g_b70 zs91 A70 F_value_b70 F_coder_b70 f74 (S_COMPACT_STRINGS.ext f73.2) hcz rfl rfl (by decide) (by decide) hlat92 rfl (by decide) (by decide)) (g := (mkF m 185 #[.val (.long q1), .second, .val (.long q2), .second, .val (.long q3), .second, .val (.int p4), .val (.long q5), .second, .val (.long q6), .second, .val (.long dd), .second, .val (.int g1), .val (.int g2), .val (.int g4), .val (.int g8), .val (.int g16), .val (.long o1), .second, .val (.long o2), .second, .val (.long o4), .second, .val (.long o8), .second, .val (.long rem), .second, .val (.ref b56), .unset, .unset] [(.ref b56), (.ref b70), (.ref b70), (.ref b65), (.ref b65)])) rfl (by rw [hml]; rfl) (Steps.refl _) (a := b70) (argsL := [(.ref b56)]) (rest := [(.ref b70), (.ref b65), (.ref b65)]) (lenOf pd_88 rfl) rfl (by show 2 * 0 + _ ≤ _; exact Nat.le_of_eq rfl) (hb hby at_185) (fun _ _ => ⟨rfl, e70, (by decide : 3 + 1 ≤ _), (by decide : 20 + 1 ≤ _)⟩)
                        dsimp only [Pt.U, Pt.locs, Pt.cells, Pt.slots] at X92 l92 y92 z92 st92 hQ92
                        subst l92 y92 z92
                        obtain ⟨rfl, N92q, K92q, oE92, oC92, t92, kb92, g_t92, sz92, ne92, oV92, oA92⟩ := hQ92
                        have N93 := Fr.app N64 N92q
                        have ne94 : b56 ≠ t92 := Nat.ne_of_lt (Nat.lt_of_lt_of_le f74.lt sz92)
                        have ne95 : b65 ≠ t92 := Nat.ne_of_lt (Nat.lt_of_lt_of_le f75.lt sz92)
                        have ne96 : b70 ≠ t92 := Nat.ne_of_lt (Nat.lt_of_lt_of_le A70.lt sz92)
                        have f97 := f73.keep K92q (allS g_b70 all0)
                        have f98 := f74.keep K92q (ninS ne71 nin0)
                        have f99 := f75.keep K92q
                        have f100 := f76.keep K92q (ninS ne72 nin0)
                        have f101 := f77.keep K92q (ninS ne72 nin0)
                        have f102 := f78.keep K92q (ninS ne72 nin0)
                        have f103 := f79.keep K92q (ninS ne72 nin0)
                        have f104 := f80.keep K92q (ninS ne72 nin0)
                        have f105 := f81.keep K92q (ninS ne72 nin0)
                        have f106 := f82.keep K92q (ninS ne72 nin0)
                        have f107 := f83.keep K92q (ninS ne72 nin0)
                        have f108 := f84.keep K92q (ninS ne72 nin0)
                        have f109 := f85.keep K92q (ninS ne72 nin0)
                        have f110 := f86.keep K92q (ninS ne72 nin0)
                        have f111 := f87.keep K92q (ninS ne72 nin0)
                        have f112 := f88.keep K92q (ninS ne72 nin0)
                        have f113 := f89.keep K92q (ninS ne72 nin0)
                        have f114 := f90.keep K92q (ninS ne72 nin0)
                        have f115 := A70.keep K92q
                        have zs118 : n0 ≤ T92.heap.size := Nat.le_trans zs91 K92q.1
                        -- pc 217: Audit.<init> by rmini
                        obtain ⟨_, _, ⟨T119, L119, k119, n119⟩, -, X119, ⟨Lc119, hQ119, l119, y119, z119⟩, st119⟩ := X92.specialBack hx (y := (⟨"com/example/strict_quota/strictquota/Audit", "<init>", "(Ljava/lang/String;JJJJJJJJJJJJJJ)V"⟩ : MethodName)) rfl hown (mvT hZ (hw _ (List.mem_of_getElem? (i := 34) rfl))) (mvT hZ (hw _ (List.mem_of_getElem? (i := 35) rfl))) (mvT hZ (hw _ (List.mem_of_getElem? (i := 36) rfl))) (by decide) (backOf (W := 1) (rmini l Z a0 hw [] b65 b70 q1 (q5 ^^^ q6) q2 rem q6 q5 q6 q5 o1 o2 q6 q5 o4 o8 (0 : Int64) (0 : Int64) (0 : Int64) (0 : Int64) (0 : Int64) (0 : Int64) (0 : Int64) (0 : Int64) (0 : Int64) (0 : Int64) (0 : Int64) (0 : Int64) (0 : Int64) (0 : Int64) T92.heap n0 zs118 f99 f100 f101 f102 f103 f104 f105 f106 f107 f108 f109 f110 f111 f112 f113 f114 g_b65) hZ (hw _ (List.mem_of_getElem? (i := 36) rfl)) (hw _ (List.mem_of_getElem? (i := 4) rfl)) (by decide) (by decide)) (g := (mkF m 217 #[.val (.long q1), .second, .val (.long q2), .second, .val (.long q3), .second, .val (.int p4), .val (.long q5), .second, .val (.long q6), .second, .val (.long dd), .second, .val (.int g1), .val (.int g2), .val (.int g4), .val (.int g8), .val (.int g16), .val (.long o1), .second, .val (.long o2), .second, .val (.long o4), .second, .val (.long o8), .second, .val (.long rem), .second, .val (.ref b56), .unset, .unset] [(.long o8), (.long o4), (.long q5), (.long q6), (.long o2), (.long o1), (.long q5), (.long q6), (.long q5), (.long q6), (.long rem), (.long q2), (.long (q5 ^^^ q6)), (.long q1), (.ref b70), (.ref b65), (.ref b65)])) rfl (by rw [hml]; rfl) (Steps.refl _) (a := b65) (argsL := [(.ref b70), (.long q1), (.long (q5 ^^^ q6)), (.long q2), (.long rem), (.long q6), (.long q5), (.long q6), (.long q5), (.long o1), (.long o2), (.long q6), (.long q5), (.long o4), (.long o8)]) (rest := [(.ref b65)]) (lenOf pd_89 rfl) rfl (by show 2 * 0 + _ ≤ _; exact Nat.le_of_eq rfl) (hb hby at_217) (fun _ _ => ⟨rfl, rfl, (by decide : 4 + 0 ≤ _), (by decide : 21 + 0 ≤ _)⟩)
                        dsimp only [Pt.U, Pt.locs, Pt.cells, Pt.slots] at X119 l119 y119 z119 st119 hQ119
                        subst l119 y119 z119
                        obtain ⟨rfl, N119q, K119q, o119_0, o119_1, o119_2, o119_3, o119_4, o119_5, o119_6, o119_7⟩ := hQ119
                        have N120 := Fr.app N93 N119q
                        have f121 := f97.keep K119q (allS g_b65 all0)
                        have f122 := f98.keep K119q (ninS ne66 nin0)
                        have f123 := f99.keep K119q
                        have f139 := oE92.keep K119q
                        have f140 := oC92.keep K119q (ninS (Ne.symm ne72) nin0)
                        have f141 := oV92.keep K119q (ninS (Ne.symm ne72) nin0)
                        have f142 := oA92.keep K119q (ninS (Ne.symm ne95) nin0)
                        have zs143 : n0 ≤ T119.heap.size := Nat.le_trans zs118 K119q.1
                        have pre144 : ∀ t, Steps p.tables e below (T119.setTop (mkF m 227 #[.val (.long q1), .second, .val (.long q2), .second, .val (.long q3), .second, .val (.int p4), .val (.long q5), .second, .val (.long q6), .second, .val (.long dd), .second, .val (.int g1), .val (.int g2), .val (.int g4), .val (.int g8), .val (.int g16), .val (.long o1), .second, .val (.long o2), .second, .val (.long o4), .second, .val (.long o8), .second, .val (.long rem), .second, .val (.ref b56), .val (.ref b65), .unset] [(.int (p4 &&& (31 : Int32)))])) t → Steps p.tables e below (s₁.setTop (entryFrame m #[(.long q1), (.long q2), (.long q3), (.int p4), (.long q5), (.long q6)] maxLocals)) t := fun t k => prej52 t (by
                          show Steps p.tables e below (Tj52.setTop (mkF m 158 #[.val (.long q1), .second, .val (.long q2), .second, .val (.long q3), .second, .val (.int p4), .val (.long q5), .second, .val (.long q6), .second, .val (.long dd), .second, .val (.int g1), .val (.int g2), .val (.int g4), .val (.int g8), .val (.int g16), .val (.long o1), .second, .val (.long o2), .second, .val (.long o4), .second, .val (.long o8), .second, .val (.long rem), .second, .unset, .unset, .unset] [])) _
                          refine XS.iconst Xj52.here hx rfl (hb hby at_158) ?_
                          show Steps p.tables e below (Tj52.setTop (mkF m 159 #[.val (.long q1), .second, .val (.long q2), .second, .val (.long q3), .second, .val (.int p4), .val (.long q5), .second, .val (.long q6), .second, .val (.long dd), .second, .val (.int g1), .val (.int g2), .val (.int g4), .val (.int g8), .val (.int g16), .val (.long o1), .second, .val (.long o2), .second, .val (.long o4), .second, .val (.long o8), .second, .val (.long rem), .second, .unset, .unset, .unset] [(.int (1 : Int32))])) _
                          refine st56 _ ?_
                          show Steps p.tables e below (T56.setTop (mkF m 161 #[.val (.long q1), .second, .val (.long q2), .second, .val (.long q3), .second, .val (.int p4), .val (.long q5), .second, .val (.long q6), .second, .val (.long dd), .second, .val (.int g1), .val (.int g2), .val (.int g4), .val (.int g8), .val (.int g16), .val (.long o1), .second, .val (.long o2), .second, .val (.long o4), .second, .val (.long o8), .second, .val (.long rem), .second, .unset, .unset, .unset] [(.ref b56)])) _
                          refine XS.astore X56.here hx rfl (hb hby at_161) rfl rfl (l' := #[.val (.long q1), .second, .val (.long q2), .second, .val (.long q3), .second, .val (.int p4), .val (.long q5), .second, .val (.long q6), .second, .val (.long dd), .second, .val (.int g1), .val (.int g2), .val (.int g4), .val (.int g8), .val (.int g16), .val (.long o1), .second, .val (.long o2), .second, .val (.long o4), .second, .val (.long o8), .second, .val (.long rem), .second, .val (.ref b56), .unset, .unset]) rfl ?_
                          show Steps p.tables e below (T56.setTop (mkF m 163 #[.val (.long q1), .second, .val (.long q2), .second, .val (.long q3), .second, .val (.int p4), .val (.long q5), .second, .val (.long q6), .second, .val (.long dd), .second, .val (.int g1), .val (.int g2), .val (.int g4), .val (.int g8), .val (.int g16), .val (.long o1), .second, .val (.long o2), .second, .val (.long o4), .second, .val (.long o8), .second, .val (.long rem), .second, .val (.ref b56), .unset, .unset] [])) _
                          refine XS.aload X56.here hx rfl (hb hby at_163) rfl rfl ?_
                          show Steps p.tables e below (T56.setTop (mkF m 165 #[.val (.long q1), .second, .val (.long q2), .second, .val (.long q3), .second, .val (.int p4), .val (.long q5), .second, .val (.long q6), .second, .val (.long dd), .second, .val (.int g1), .val (.int g2), .val (.int g4), .val (.int g8), .val (.int g16), .val (.long o1), .second, .val (.long o2), .second, .val (.long o4), .second, .val (.long o8), .second, .val (.long rem), .second, .val (.ref b56), .unset, .unset] [(.ref b56)])) _
                          refine XS.iconst X56.here hx rfl (hb hby at_165) ?_
                          show Steps p.tables e below (T56.setTop (mkF m 166 #[.val (.long q1), .second, .val (.long q2), .second, .val (.long q3), .second, .val (.int p4), .val (.long q5), .second, .val (.long q6), .second, .val (.long dd), .second, .val (.int g1), .val (.int g2), .val (.int g4), .val (.int g8), .val (.int g16), .val (.long o1), .second, .val (.long o2), .second, .val (.long o4), .second, .val (.long o8), .second, .val (.long rem), .second, .val (.ref b56), .unset, .unset] [(.int (0 : Int32)), (.ref b56)])) _
                          refine XS.lload X56.here hx rfl (hb hby at_166) rfl ?_
                          show Steps p.tables e below (T56.setTop (mkF m 168 #[.val (.long q1), .second, .val (.long q2), .second, .val (.long q3), .second, .val (.int p4), .val (.long q5), .second, .val (.long q6), .second, .val (.long dd), .second, .val (.int g1), .val (.int g2), .val (.int g4), .val (.int g8), .val (.int g16), .val (.long o1), .second, .val (.long o2), .second, .val (.long o4), .second, .val (.long o8), .second, .val (.long rem), .second, .val (.ref b56), .unset, .unset] [(.long q6), (.int (0 : Int32)), (.ref b56)])) _
                          refine X56.ldc2Long hx hown (mvT hZ (hw _ (List.mem_of_getElem? (i := 1) rfl))) (g := (mkF m 168 #[.val (.long q1), .second, .val (.long q2), .second, .val (.long q3), .second, .val (.int p4), .val (.long q5), .second, .val (.long q6), .second, .val (.long dd), .second, .val (.int g1), .val (.int g2), .val (.int g4), .val (.int g8), .val (.int g16), .val (.long o1), .second, .val (.long o2), .second, .val (.long o4), .second, .val (.long o8), .second, .val (.long rem), .second, .val (.ref b56), .unset, .unset] [(.long q6), (.int (0 : Int32)), (.ref b56)])) rfl (hb hby at_168) _ ?_
                          show Steps p.tables e below (T56.setTop (mkF m 171 #[.val (.long q1), .second, .val (.long q2), .second, .val (.long q3), .second, .val (.int p4), .val (.long q5), .second, .val (.long q6), .second, .val (.long dd), .second, .val (.int g1), .val (.int g2), .val (.int g4), .val (.int g8), .val (.int g16), .val (.long o1), .second, .val (.long o2), .second, .val (.long o4), .second, .val (.long o8), .second, .val (.long rem), .second, .val (.ref b56), .unset, .unset] [(.long (255 : Int64)), (.long q6), (.int (0 : Int32)), (.ref b56)])) _
                          refine XS.land X56.here hx rfl (hb hby at_171) rfl ?_
                          show Steps p.tables e below (T56.setTop (mkF m 172 #[.val (.long q1), .second, .val (.long q2), .second, .val (.long q3), .second, .val (.int p4), .val (.long q5), .second, .val (.long q6), .second, .val (.long dd), .second, .val (.int g1), .val (.int g2), .val (.int g4), .val (.int g8), .val (.int g16), .val (.long o1), .second, .val (.long o2), .second, .val (.long o4), .second, .val (.long o8), .second, .val (.long rem), .second, .val (.ref b56), .unset, .unset] [(.long (q6 &&& (255 : Int64))), (.int (0 : Int32)), (.ref b56)])) _
                          refine XS.l2i X56.here hx rfl (hb hby at_172) rfl ?_
                          show Steps p.tables e below (T56.setTop (mkF m 173 #[.val (.long q1), .second, .val (.long q2), .second, .val (.long q3), .second, .val (.int p4), .val (.long q5), .second, .val (.long q6), .second, .val (.long dd), .second, .val (.int g1), .val (.int g2), .val (.int g4), .val (.int g8), .val (.int g16), .val (.long o1), .second, .val (.long o2), .second, .val (.long o4), .second, .val (.long o8), .second, .val (.long rem), .second, .val (.ref b56), .unset, .unset] [(.int ((q6 &&& (255 : Int64)).toInt32)), (.int (0 : Int32)), (.ref b56)])) _
                          refine XS.i2c X56.here hx rfl (hb hby at_173) rfl ?_
                          show Steps p.tables e below (T56.setTop (mkF m 174 #[.val (.long q1), .second, .val (.long q2), .second, .val (.long q3), .second, .val (.int p4), .val (.long q5), .second, .val (.long q6), .second, .val (.long dd), .second, .val (.int g1), .val (.int g2), .val (.int g4), .val (.int g8), .val (.int g16), .val (.long o1), .second, .val (.long o2), .second, .val (.long o4), .second, .val (.long o8), .second, .val (.long rem), .second, .val (.ref b56), .unset, .unset] [(.int (((q6 &&& (255 : Int64)).toInt32).toUInt32.toUInt16.toUInt32.toInt32)), (.int (0 : Int32)), (.ref b56)])) _
                          refine st60 _ ?_
                          show Steps p.tables e below (T60.setTop (mkF m 175 #[.val (.long q1), .second, .val (.long q2), .second, .val (.long q3), .second, .val (.int p4), .val (.long q5), .second, .val (.long q6), .second, .val (.long dd), .second, .val (.int g1), .val (.int g2), .val (.int g4), .val (.int g8), .val (.int g16), .val (.long o1), .second, .val (.long o2), .second, .val (.long o4), .second, .val (.long o8), .second, .val (.long rem), .second, .val (.ref b56), .unset, .unset] [])) _
                          refine st65 _ ?_
                          show Steps p.tables e below (T65.setTop (mkF m 178 #[.val (.long q1), .second, .val (.long q2), .second, .val (.long q3), .second, .val (.int p4), .val (.long q5), .second, .val (.long q6), .second, .val (.long dd), .second, .val (.int g1), .val (.int g2), .val (.int g4), .val (.int g8), .val (.int g16), .val (.long o1), .second, .val (.long o2), .second, .val (.long o4), .second, .val (.long o8), .second, .val (.long rem), .second, .val (.ref b56), .unset, .unset] [(.ref b65)])) _
                          refine XS.dup X65.here hx rfl (hb hby at_178) rfl rfl ?_
                          show Steps p.tables e below (T65.setTop (mkF m 179 #[.val (.long q1), .second, .val (.long q2), .second, .val (.long q3), .second, .val (.int p4), .val (.long q5), .second, .val (.long q6), .second, .val (.long dd), .second, .val (.int g1), .val (.int g2), .val (.int g4), .val (.int g8), .val (.int g16), .val (.long o1), .second, .val (.long o2), .second, .val (.long o4), .second, .val (.long o8), .second, .val (.long rem), .second, .val (.ref b56), .unset, .unset] [(.ref b65), (.ref b65)])) _
                          refine st70 _ ?_
                          show Steps p.tables e below (T70.setTop (mkF m 182 #[.val (.long q1), .second, .val (.long q2), .second, .val (.long q3), .second, .val (.int p4), .val (.long q5), .second, .val (.long q6), .second, .val (.long dd), .second, .val (.int g1), .val (.int g2), .val (.int g4), .val (.int g8), .val (.int g16), .val (.long o1), .second, .val (.long o2), .second, .val (.long o4), .second, .val (.long o8), .second, .val (.long rem), .second, .val (.ref b56), .unset, .unset] [(.ref b70), (.ref b65), (.ref b65)])) _
                          refine XS.dup X70.here hx rfl (hb hby at_182) rfl rfl ?_
                          show Steps p.tables e below (T70.setTop (mkF m 183 #[.val (.long q1), .second, .val (.long q2), .second, .val (.long q3), .second, .val (.int p4), .val (.long q5), .second, .val (.long q6), .second, .val (.long dd), .second, .val (.int g1), .val (.int g2), .val (.int g4), .val (.int g8), .val (.int g16), .val (.long o1), .second, .val (.long o2), .second, .val (.long o4), .second, .val (.long o8), .second, .val (.long rem), .second, .val (.ref b56), .unset, .unset] [(.ref b70), (.ref b70), (.ref b65), (.ref b65)])) _
                          refine XS.aload X70.here hx rfl (hb hby at_183) rfl rfl ?_
                          show Steps p.tables e below (T70.setTop (mkF m 185 #[.val (.long q1), .second, .val (.long q2), .second, .val (.long q3), .second, .val (.int p4), .val (.long q5), .second, .val (.long q6), .second, .val (.long dd), .second, .val (.int g1), .val (.int g2), .val (.int g4), .val (.int g8), .val (.int g16), .val (.long o1), .second, .val (.long o2), .second, .val (.long o4), .second, .val (.long o8), .second, .val (.long rem), .second, .val (.ref b56), .unset, .unset] [(.ref b56), (.ref b70), (.ref b70), (.ref b65), (.ref b65)])) _
                          refine st92.trans ?_
                          show Steps p.tables e below (T92.setTop (mkF m 188 #[.val (.long q1), .second, .val (.long q2), .second, .val (.long q3), .second, .val (.int p4), .val (.long q5), .second, .val (.long q6), .second, .val (.long dd), .second, .val (.int g1), .val (.int g2), .val (.int g4), .val (.int g8), .val (.int g16), .val (.long o1), .second, .val (.long o2), .second, .val (.long o4), .second, .val (.long o8), .second, .val (.long rem), .second, .val (.ref b56), .unset, .unset] [(.ref b70), (.ref b65), (.ref b65)])) _
                          refine XS.lloadN X92.here hx rfl (hb hby at_188) rfl ?_
                          show Steps p.tables e below (T92.setTop (mkF m 189 #[.val (.long q1), .second, .val (.long q2), .second, .val (.long q3), .second, .val (.int p4), .val (.long q5), .second, .val (.long q6), .second, .val (.long dd), .second, .val (.int g1), .val (.int g2), .val (.int g4), .val (.int g8), .val (.int g16), .val (.long o1), .second, .val (.long o2), .second, .val (.long o4), .second, .val (.long o8), .second, .val (.long rem), .second, .val (.ref b56), .unset, .unset] [(.long q1), (.ref b70), (.ref b65), (.ref b65)])) _
                          refine XS.lload X92.here hx rfl (hb hby at_189) rfl ?_
                          show Steps p.tables e below (T92.setTop (mkF m 191 #[.val (.long q1), .second, .val (.long q2), .second, .val (.long q3), .second, .val (.int p4), .val (.long q5), .second, .val (.long q6), .second, .val (.long dd), .second, .val (.int g1), .val (.int g2), .val (.int g4), .val (.int g8), .val (.int g16), .val (.long o1), .second, .val (.long o2), .second, .val (.long o4), .second, .val (.long o8), .second, .val (.long rem), .second, .val (.ref b56), .unset, .unset] [(.long q5), (.long q1), (.ref b70), (.ref b65), (.ref b65)])) _
                          refine XS.lload X92.here hx rfl (hb hby at_191) rfl ?_
                          show Steps p.tables e below (T92.setTop (mkF m 193 #[.val (.long q1), .second, .val (.long q2), .second, .val (.long q3), .second, .val (.int p4), .val (.long q5), .second, .val (.long q6), .second, .val (.long dd), .second, .val (.int g1), .val (.int g2), .val (.int g4), .val (.int g8), .val (.int g16), .val (.long o1), .second, .val (.long o2), .second, .val (.long o4), .second, .val (.long o8), .second, .val (.long rem), .second, .val (.ref b56), .unset, .unset] [(.long q6), (.long q5), (.long q1), (.ref b70), (.ref b65), (.ref b65)])) _
                          refine XS.lxor X92.here hx rfl (hb hby at_193) rfl ?_
                          show Steps p.tables e below (T92.setTop (mkF m 194 #[.val (.long q1), .second, .val (.long q2), .second, .val (.long q3), .second, .val (.int p4), .val (.long q5), .second, .val (.long q6), .second, .val (.long dd), .second, .val (.int g1), .val (.int g2), .val (.int g4), .val (.int g8), .val (.int g16), .val (.long o1), .second, .val (.long o2), .second, .val (.long o4), .second, .val (.long o8), .second, .val (.long rem), .second, .val (.ref b56), .unset, .unset] [(.long (q5 ^^^ q6)), (.long q1), (.ref b70), (.ref b65), (.ref b65)])) _
                          refine XS.lloadN X92.here hx rfl (hb hby at_194) rfl ?_
                          show Steps p.tables e below (T92.setTop (mkF m 195 #[.val (.long q1), .second, .val (.long q2), .second, .val (.long q3), .second, .val (.int p4), .val (.long q5), .second, .val (.long q6), .second, .val (.long dd), .second, .val (.int g1), .val (.int g2), .val (.int g4), .val (.int g8), .val (.int g16), .val (.long o1), .second, .val (.long o2), .second, .val (.long o4), .second, .val (.long o8), .second, .val (.long rem), .second, .val (.ref b56), .unset, .unset] [(.long q2), (.long (q5 ^^^ q6)), (.long q1), (.ref b70), (.ref b65), (.ref b65)])) _
                          refine XS.lload X92.here hx rfl (hb hby at_195) rfl ?_
                          show Steps p.tables e below (T92.setTop (mkF m 197 #[.val (.long q1), .second, .val (.long q2), .second, .val (.long q3), .second, .val (.int p4), .val (.long q5), .second, .val (.long q6), .second, .val (.long dd), .second, .val (.int g1), .val (.int g2), .val (.int g4), .val (.int g8), .val (.int g16), .val (.long o1), .second, .val (.long o2), .second, .val (.long o4), .second, .val (.long o8), .second, .val (.long rem), .second, .val (.ref b56), .unset, .unset] [(.long rem), (.long q2), (.long (q5 ^^^ q6)), (.long q1), (.ref b70), (.ref b65), (.ref b65)])) _
                          refine XS.lload X92.here hx rfl (hb hby at_197) rfl ?_
                          show Steps p.tables e below (T92.setTop (mkF m 199 #[.val (.long q1), .second, .val (.long q2), .second, .val (.long q3), .second, .val (.int p4), .val (.long q5), .second, .val (.long q6), .second, .val (.long dd), .second, .val (.int g1), .val (.int g2), .val (.int g4), .val (.int g8), .val (.int g16), .val (.long o1), .second, .val (.long o2), .second, .val (.long o4), .second, .val (.long o8), .second, .val (.long rem), .second, .val (.ref b56), .unset, .unset] [(.long q6), (.long rem), (.long q2), (.long (q5 ^^^ q6)), (.long q1), (.ref b70), (.ref b65), (.ref b65)])) _
                          refine XS.lload X92.here hx rfl (hb hby at_199) rfl ?_
                          show Steps p.tables e below (T92.setTop (mkF m 201 #[.val (.long q1), .second, .val (.long q2), .second, .val (.long q3), .second, .val (.int p4), .val (.long q5), .second, .val (.long q6), .second, .val (.long dd), .second, .val (.int g1), .val (.int g2), .val (.int g4), .val (.int g8), .val (.int g16), .val (.long o1), .second, .val (.long o2), .second, .val (.long o4), .second, .val (.long o8), .second, .val (.long rem), .second, .val (.ref b56), .unset, .unset] [(.long q5), (.long q6), (.long rem), (.long q2), (.long (q5 ^^^ q6)), (.long q1), (.ref b70), (.ref b65), (.ref b65)])) _
                          refine XS.lload X92.here hx rfl (hb hby at_201) rfl ?_
                          show Steps p.tables e below (T92.setTop (mkF m 203 #[.val (.long q1), .second, .val (.long q2), .second, .val (.long q3), .second, .val (.int p4), .val (.long q5), .second, .val (.long q6), .second, .val (.long dd), .second, .val (.int g1), .val (.int g2), .val (.int g4), .val (.int g8), .val (.int g16), .val (.long o1), .second, .val (.long o2), .second, .val (.long o4), .second, .val (.long o8), .second, .val (.long rem), .second, .val (.ref b56), .unset, .unset] [(.long q6), (.long q5), (.long q6), (.long rem), (.long q2), (.long (q5 ^^^ q6)), (.long q1), (.ref b70), (.ref b65), (.ref b65)])) _
                          refine XS.lload X92.here hx rfl (hb hby at_203) rfl ?_
                          show Steps p.tables e below (T92.setTop (mkF m 205 #[.val (.long q1), .second, .val (.long q2), .second, .val (.long q3), .second, .val (.int p4), .val (.long q5), .second, .val (.long q6), .second, .val (.long dd), .second, .val (.int g1), .val (.int g2), .val (.int g4), .val (.int g8), .val (.int g16), .val (.long o1), .second, .val (.long o2), .second, .val (.long o4), .second, .val (.long o8), .second, .val (.long rem), .second, .val (.ref b56), .unset, .unset] [(.long q5), (.long q6), (.long q5), (.long q6), (.long rem), (.long q2), (.long (q5 ^^^ q6)), (.long q1), (.ref b70), (.ref b65), (.ref b65)])) _
                          refine XS.lload X92.here hx rfl (hb hby at_205) rfl ?_
                          show Steps p.tables e below (T92.setTop (mkF m 207 #[.val (.long q1), .second, .val (.long q2), .second, .val (.long q3), .second, .val (.int p4), .val (.long q5), .second, .val (.long q6), .second, .val (.long dd), .second, .val (.int g1), .val (.int g2), .val (.int g4), .val (.int g8), .val (.int g16), .val (.long o1), .second, .val (.long o2), .second, .val (.long o4), .second, .val (.long o8), .second, .val (.long rem), .second, .val (.ref b56), .unset, .unset] [(.long o1), (.long q5), (.long q6), (.long q5), (.long q6), (.long rem), (.long q2), (.long (q5 ^^^ q6)), (.long q1), (.ref b70), (.ref b65), (.ref b65)])) _
                          refine XS.lload X92.here hx rfl (hb hby at_207) rfl ?_
                          show Steps p.tables e below (T92.setTop (mkF m 209 #[.val (.long q1), .second, .val (.long q2), .second, .val (.long q3), .second, .val (.int p4), .val (.long q5), .second, .val (.long q6), .second, .val (.long dd), .second, .val (.int g1), .val (.int g2), .val (.int g4), .val (.int g8), .val (.int g16), .val (.long o1), .second, .val (.long o2), .second, .val (.long o4), .second, .val (.long o8), .second, .val (.long rem), .second, .val (.ref b56), .unset, .unset] [(.long o2), (.long o1), (.long q5), (.long q6), (.long q5), (.long q6), (.long rem), (.long q2), (.long (q5 ^^^ q6)), (.long q1), (.ref b70), (.ref b65), (.ref b65)])) _
                          refine XS.lload X92.here hx rfl (hb hby at_209) rfl ?_
                          show Steps p.tables e below (T92.setTop (mkF m 211 #[.val (.long q1), .second, .val (.long q2), .second, .val (.long q3), .second, .val (.int p4), .val (.long q5), .second, .val (.long q6), .second, .val (.long dd), .second, .val (.int g1), .val (.int g2), .val (.int g4), .val (.int g8), .val (.int g16), .val (.long o1), .second, .val (.long o2), .second, .val (.long o4), .second, .val (.long o8), .second, .val (.long rem), .second, .val (.ref b56), .unset, .unset] [(.long q6), (.long o2), (.long o1), (.long q5), (.long q6), (.long q5), (.long q6), (.long rem), (.long q2), (.long (q5 ^^^ q6)), (.long q1), (.ref b70), (.ref b65), (.ref b65)])) _
                          refine XS.lload X92.here hx rfl (hb hby at_211) rfl ?_
                          show Steps p.tables e below (T92.setTop (mkF m 213 #[.val (.long q1), .second, .val (.long q2), .second, .val (.long q3), .second, .val (.int p4), .val (.long q5), .second, .val (.long q6), .second, .val (.long dd), .second, .val (.int g1), .val (.int g2), .val (.int g4), .val (.int g8), .val (.int g16), .val (.long o1), .second, .val (.long o2), .second, .val (.long o4), .second, .val (.long o8), .second, .val (.long rem), .second, .val (.ref b56), .unset, .unset] [(.long q5), (.long q6), (.long o2), (.long o1), (.long q5), (.long q6), (.long q5), (.long q6), (.long rem), (.long q2), (.long (q5 ^^^ q6)), (.long q1), (.ref b70), (.ref b65), (.ref b65)])) _
                          refine XS.lload X92.here hx rfl (hb hby at_213) rfl ?_
                          show Steps p.tables e below (T92.setTop (mkF m 215 #[.val (.long q1), .second, .val (.long q2), .second, .val (.long q3), .second, .val (.int p4), .val (.long q5), .second, .val (.long q6), .second, .val (.long dd), .second, .val (.int g1), .val (.int g2), .val (.int g4), .val (.int g8), .val (.int g16), .val (.long o1), .second, .val (.long o2), .second, .val (.long o4), .second, .val (.long o8), .second, .val (.long rem), .second, .val (.ref b56), .unset, .unset] [(.long o4), (.long q5), (.long q6), (.long o2), (.long o1), (.long q5), (.long q6), (.long q5), (.long q6), (.long rem), (.long q2), (.long (q5 ^^^ q6)), (.long q1), (.ref b70), (.ref b65), (.ref b65)])) _
                          refine XS.lload X92.here hx rfl (hb hby at_215) rfl ?_
                          show Steps p.tables e below (T92.setTop (mkF m 217 #[.val (.long q1), .second, .val (.long q2), .second, .val (.long q3), .second, .val (.int p4), .val (.long q5), .second, .val (.long q6), .second, .val (.long dd), .second, .val (.int g1), .val (.int g2), .val (.int g4), .val (.int g8), .val (.int g16), .val (.long o1), .second, .val (.long o2), .second, .val (.long o4), .second, .val (.long o8), .second, .val (.long rem), .second, .val (.ref b56), .unset, .unset] [(.long o8), (.long o4), (.long q5), (.long q6), (.long o2), (.long o1), (.long q5), (.long q6), (.long q5), (.long q6), (.long rem), (.long q2), (.long (q5 ^^^ q6)), (.long q1), (.ref b70), (.ref b65), (.ref b65)])) _
                          refine st119.trans ?_
                          show Steps p.tables e below (T119.setTop (mkF m 220 #[.val (.long q1), .second, .val (.long q2), .second, .val (.long q3), .second, .val (.int p4), .val (.long q5), .second, .val (.long q6), .second, .val (.long dd), .second, .val (.int g1), .val (.int g2), .val (.int g4), .val (.int g8), .val (.int g16), .val (.long o1), .second, .val (.long o2), .second, .val (.long o4), .second, .val (.long o8), .second, .val (.long rem), .second, .val (.ref b56), .unset, .unset] [(.ref b65)])) _
                          refine XS.astore X119.here hx rfl (hb hby at_220) rfl rfl (l' := #[.val (.long q1), .second, .val (.long q2), .second, .val (.long q3), .second, .val (.int p4), .val (.long q5), .second, .val (.long q6), .second, .val (.long dd), .second, .val (.int g1), .val (.int g2), .val (.int g4), .val (.int g8), .val (.int g16), .val (.long o1), .second, .val (.long o2), .second, .val (.long o4), .second, .val (.long o8), .second, .val (.long rem), .second, .val (.ref b56), .val (.ref b65), .unset]) rfl ?_
                          show Steps p.tables e below (T119.setTop (mkF m 222 #[.val (.long q1), .second, .val (.long q2), .second, .val (.long q3), .second, .val (.int p4), .val (.long q5), .second, .val (.long q6), .second, .val (.long dd), .second, .val (.int g1), .val (.int g2), .val (.int g4), .val (.int g8), .val (.int g16), .val (.long o1), .second, .val (.long o2), .second, .val (.long o4), .second, .val (.long o8), .second, .val (.long rem), .second, .val (.ref b56), .val (.ref b65), .unset] [])) _
                          refine XS.iload X119.here hx rfl (hb hby at_222) rfl ?_
                          show Steps p.tables e below (T119.setTop (mkF m 224 #[.val (.long q1), .second, .val (.long q2), .second, .val (.long q3), .second, .val (.int p4), .val (.long q5), .second, .val (.long q6), .second, .val (.long dd), .second, .val (.int g1), .val (.int g2), .val (.int g4), .val (.int g8), .val (.int g16), .val (.long o1), .second, .val (.long o2), .second, .val (.long o4), .second, .val (.long o8), .second, .val (.long rem), .second, .val (.ref b56), .val (.ref b65), .unset] [(.int p4)])) _
                          refine XS.bipush X119.here hx rfl (hb hby at_224) ?_
                          show Steps p.tables e below (T119.setTop (mkF m 226 #[.val (.long q1), .second, .val (.long q2), .second, .val (.long q3), .second, .val (.int p4), .val (.long q5), .second, .val (.long q6), .second, .val (.long dd), .second, .val (.int g1), .val (.int g2), .val (.int g4), .val (.int g8), .val (.int g16), .val (.long o1), .second, .val (.long o2), .second, .val (.long o4), .second, .val (.long o8), .second, .val (.long rem), .second, .val (.ref b56), .val (.ref b65), .unset] [(.int (31 : Int32)), (.int p4)])) _
                          refine XS.iand X119.here hx rfl (hb hby at_226) rfl ?_
                          exact k)
                        by_cases hc145 : (p4 &&& (31 : Int32)) = (0 : Int32)
                        ·  -- pc 227: (p4 &&& (31 : Int32)) = (0 : Int32)
                          -- pc 239: Audit.promisesKept by rmpk
                          obtain ⟨cq146, kq146, q146a, q146b, q146c⟩ := isOf hZ rfl o119_0
                          obtain ⟨_, _, ⟨T146, L146, k146, n146⟩, -, X146, ⟨Lc146, hQ146, l146, y146, z146⟩, st146⟩ := X119.virtualBack hx (y := (⟨"com/example/strict_quota/strictquota/Audit", "promisesKept", "()Z"⟩ : MethodName)) (z := (⟨"com/example/strict_quota/strictquota/Audit", "promisesKept", "()Z"⟩ : MethodName)) hown (mvT hZ (hw _ (List.mem_of_getElem? (i := 73) rfl))) (mvT hZ (hw _ (List.mem_of_getElem? (i := 74) rfl))) (notFace_of_selects (args := #[]) (mvT hZ (hw _ (List.mem_of_getElem? (i := 76) rfl)))) (mvT hZ (hw _ (List.mem_of_getElem? (i := 76) rfl))) (mvT hZ (hw _ (List.mem_of_getElem? (i := 75) rfl))) (by decide) (backOf (W := 0) (rmpk l Z a0 hw [] b65 q1 q2 rem o1 o2 o4 o8 T119.heap n0 zs143 o119_1 o119_2 o119_3 o119_4 o119_5 o119_6 o119_7) hZ (hw _ (List.mem_of_getElem? (i := 77) rfl)) (hw _ (List.mem_of_getElem? (i := 4) rfl)) (by decide) (by decide)) q146a q146c (g := (mkF m 239 #[.val (.long q1), .second, .val (.long q2), .second, .val (.long q3), .second, .val (.int p4), .val (.long q5), .second, .val (.long q6), .second, .val (.long dd), .second, .val (.int g1), .val (.int g2), .val (.int g4), .val (.int g8), .val (.int g16), .val (.long o1), .second, .val (.long o2), .second, .val (.long o4), .second, .val (.long o8), .second, .val (.long rem), .second, .val (.ref b56), .val (.ref b65), .val (.int (1 : Int32))] [(.ref b65)])) rfl (by rw [hml]; rfl) (Steps.refl _) (argsL := []) (rest := []) (lenOf pd_90 rfl) rfl (by show 2 * 0 + _ ≤ _; exact Nat.le_of_eq rfl) (hb hby at_239) (fun _ _ => ⟨rfl, rfl, (by decide : 4 + 0 ≤ _), (by decide : 21 + 0 ≤ _)⟩)
                          dsimp only [Pt.U, Pt.locs, Pt.cells, Pt.slots] at X146 l146 y146 z146 st146 hQ146
                          subst l146 y146 z146
                          obtain ⟨rfl, N146q, e146⟩ := hQ146
                          have N147 := Fr.app N120 N146q
                          have hs148 : (fpk q1 q2 rem o1 o2 o4 o8) = (1 : Int32) := (own_pk p4 o1 o2 o4 o8 rem q1 q2 ho1 ho2 ho4 ho8 hrem).1 hc145
                          obtain ⟨fs, hr, hrun, hended, hW, hsame⟩ := X146.leave (v := some (.int (1 : Int32))) (fun h => by rw [Bd.returns] at h; cases h) Bd.notSynchronized
                          refine ⟨_, _, pre144 _ ?_, hrun, hended, _, _, rfl, ?_, ⟨_, rfl⟩, hW, hsame.mono (by decide) (by decide)⟩
                          · show Steps p.tables e below (T119.setTop (mkF m 227 #[.val (.long q1), .second, .val (.long q2), .second, .val (.long q3), .second, .val (.int p4), .val (.long q5), .second, .val (.long q6), .second, .val (.long dd), .second, .val (.int g1), .val (.int g2), .val (.int g4), .val (.int g8), .val (.int g16), .val (.long o1), .second, .val (.long o2), .second, .val (.long o4), .second, .val (.long o8), .second, .val (.long rem), .second, .val (.ref b56), .val (.ref b65), .unset] [(.int (p4 &&& (31 : Int32)))])) _
                            refine XS.ifNo X119.here hx rfl (hb hby at_227) rfl ((if0 _ _).trans (teq hc145).2) ?_
                            show Steps p.tables e below (T119.setTop (mkF m 230 #[.val (.long q1), .second, .val (.long q2), .second, .val (.long q3), .second, .val (.int p4), .val (.long q5), .second, .val (.long q6), .second, .val (.long dd), .second, .val (.int g1), .val (.int g2), .val (.int g4), .val (.int g8), .val (.int g16), .val (.long o1), .second, .val (.long o2), .second, .val (.long o4), .second, .val (.long o8), .second, .val (.long rem), .second, .val (.ref b56), .val (.ref b65), .unset] [])) _
                            refine XS.iconst X119.here hx rfl (hb hby at_230) ?_
                            show Steps p.tables e below (T119.setTop (mkF m 231 #[.val (.long q1), .second, .val (.long q2), .second, .val (.long q3), .second, .val (.int p4), .val (.long q5), .second, .val (.long q6), .second, .val (.long dd), .second, .val (.int g1), .val (.int g2), .val (.int g4), .val (.int g8), .val (.int g16), .val (.long o1), .second, .val (.long o2), .second, .val (.long o4), .second, .val (.long o8), .second, .val (.long rem), .second, .val (.ref b56), .val (.ref b65), .unset] [(.int (1 : Int32))])) _
                            refine XS.goto X119.here hx rfl (pc0 := 231) (pc' := 235) rfl (hb hby at_231) (by decide) (by decide) ?_
                            show Steps p.tables e below (T119.setTop (mkF m 235 #[.val (.long q1), .second, .val (.long q2), .second, .val (.long q3), .second, .val (.int p4), .val (.long q5), .second, .val (.long q6), .second, .val (.long dd), .second, .val (.int g1), .val (.int g2), .val (.int g4), .val (.int g8), .val (.int g16), .val (.long o1), .second, .val (.long o2), .second, .val (.long o4), .second, .val (.long o8), .second, .val (.long rem), .second, .val (.ref b56), .val (.ref b65), .unset] [(.int (1 : Int32))])) _
                            refine XS.istore X119.here hx rfl (hb hby at_235) rfl (l' := #[.val (.long q1), .second, .val (.long q2), .second, .val (.long q3), .second, .val (.int p4), .val (.long q5), .second, .val (.long q6), .second, .val (.long dd), .second, .val (.int g1), .val (.int g2), .val (.int g4), .val (.int g8), .val (.int g16), .val (.long o1), .second, .val (.long o2), .second, .val (.long o4), .second, .val (.long o8), .second, .val (.long rem), .second, .val (.ref b56), .val (.ref b65), .val (.int (1 : Int32))]) rfl ?_
                            show Steps p.tables e below (T119.setTop (mkF m 237 #[.val (.long q1), .second, .val (.long q2), .second, .val (.long q3), .second, .val (.int p4), .val (.long q5), .second, .val (.long q6), .second, .val (.long dd), .second, .val (.int g1), .val (.int g2), .val (.int g4), .val (.int g8), .val (.int g16), .val (.long o1), .second, .val (.long o2), .second, .val (.long o4), .second, .val (.long o8), .second, .val (.long rem), .second, .val (.ref b56), .val (.ref b65), .val (.int (1 : Int32))] [])) _
                            refine XS.aload X119.here hx rfl (hb hby at_237) rfl rfl ?_
                            show Steps p.tables e below (T119.setTop (mkF m 239 #[.val (.long q1), .second, .val (.long q2), .second, .val (.long q3), .second, .val (.int p4), .val (.long q5), .second, .val (.long q6), .second, .val (.long dd), .second, .val (.int g1), .val (.int g2), .val (.int g4), .val (.int g8), .val (.int g16), .val (.long o1), .second, .val (.long o2), .second, .val (.long o4), .second, .val (.long o8), .second, .val (.long rem), .second, .val (.ref b56), .val (.ref b65), .val (.int (1 : Int32))] [(.ref b65)])) _
                            refine st146.trans ?_
                            show Steps p.tables e below (T146.setTop (mkF m 242 #[.val (.long q1), .second, .val (.long q2), .second, .val (.long q3), .second, .val (.int p4), .val (.long q5), .second, .val (.long q6), .second, .val (.long dd), .second, .val (.int g1), .val (.int g2), .val (.int g4), .val (.int g8), .val (.int g16), .val (.long o1), .second, .val (.long o2), .second, .val (.long o4), .second, .val (.long o8), .second, .val (.long rem), .second, .val (.ref b56), .val (.ref b65), .val (.int (1 : Int32))] [(.int (fpk q1 q2 rem o1 o2 o4 o8))])) _
                            refine XS.iload X146.here hx rfl (hb hby at_242) rfl ?_
                            show Steps p.tables e below (T146.setTop (mkF m 244 #[.val (.long q1), .second, .val (.long q2), .second, .val (.long q3), .second, .val (.int p4), .val (.long q5), .second, .val (.long q6), .second, .val (.long dd), .second, .val (.int g1), .val (.int g2), .val (.int g4), .val (.int g8), .val (.int g16), .val (.long o1), .second, .val (.long o2), .second, .val (.long o4), .second, .val (.long o8), .second, .val (.long rem), .second, .val (.ref b56), .val (.ref b65), .val (.int (1 : Int32))] [(.int (1 : Int32)), (.int (fpk q1 q2 rem o1 o2 o4 o8))])) _
                            refine XS.icmpNo X146.here hx rfl (hb hby at_244) rfl (teq hs148).2 ?_
                            show Steps p.tables e below (T146.setTop (mkF m 247 #[.val (.long q1), .second, .val (.long q2), .second, .val (.long q3), .second, .val (.int p4), .val (.long q5), .second, .val (.long q6), .second, .val (.long dd), .second, .val (.int g1), .val (.int g2), .val (.int g4), .val (.int g8), .val (.int g16), .val (.long o1), .second, .val (.long o2), .second, .val (.long o4), .second, .val (.long o8), .second, .val (.long rem), .second, .val (.ref b56), .val (.ref b65), .val (.int (1 : Int32))] [])) _
                            refine XS.iconst X146.here hx rfl (hb hby at_247) ?_
                            show Steps p.tables e below (T146.setTop (mkF m 248 #[.val (.long q1), .second, .val (.long q2), .second, .val (.long q3), .second, .val (.int p4), .val (.long q5), .second, .val (.long q6), .second, .val (.long dd), .second, .val (.int g1), .val (.int g2), .val (.int g4), .val (.int g8), .val (.int g16), .val (.long o1), .second, .val (.long o2), .second, .val (.long o4), .second, .val (.long o8), .second, .val (.long rem), .second, .val (.ref b56), .val (.ref b65), .val (.int (1 : Int32))] [(.int (1 : Int32))])) _
                            refine XS.goto X146.here hx rfl (pc0 := 248) (pc' := 252) rfl (hb hby at_248) (by decide) (by decide) ?_
                            show Steps p.tables e below (T146.setTop (mkF m 252 #[.val (.long q1), .second, .val (.long q2), .second, .val (.long q3), .second, .val (.int p4), .val (.long q5), .second, .val (.long q6), .second, .val (.long dd), .second, .val (.int g1), .val (.int g2), .val (.int g4), .val (.int g8), .val (.int g16), .val (.long o1), .second, .val (.long o2), .second, .val (.long o4), .second, .val (.long o8), .second, .val (.long rem), .second, .val (.ref b56), .val (.ref b65), .val (.int (1 : Int32))] [(.int (1 : Int32))])) _
                            exact retN X146 hx (t := .boolean) Bd.returns (by simp) (hb hby at_252) hr
                          · show Q0 Z q1 q2 q3 p4 q5 q6 cz h0 n0 _ T146.heap _
                            rw [e146]
                            exact ⟨rfl, N147⟩
                        ·  -- pc 227: not (p4 &&& (31 : Int32)) = (0 : Int32)
                          -- pc 239: Audit.promisesKept by rmpk
                          obtain ⟨cq149, kq149, q149a, q149b, q149c⟩ := isOf hZ rfl o119_0
                          obtain ⟨_, _, ⟨T149, L149, k149, n149⟩, -, X149, ⟨Lc149, hQ149, l149, y149, z149⟩, st149⟩ := X119.virtualBack hx (y := (⟨"com/example/strict_quota/strictquota/Audit", "promisesKept", "()Z"⟩ : MethodName)) (z := (⟨"com/example/strict_quota/strictquota/Audit", "promisesKept", "()Z"⟩ : MethodName)) hown (mvT hZ (hw _ (List.mem_of_getElem? (i := 73) rfl))) (mvT hZ (hw _ (List.mem_of_getElem? (i := 74) rfl))) (notFace_of_selects (args := #[]) (mvT hZ (hw _ (List.mem_of_getElem? (i := 76) rfl)))) (mvT hZ (hw _ (List.mem_of_getElem? (i := 76) rfl))) (mvT hZ (hw _ (List.mem_of_getElem? (i := 75) rfl))) (by decide) (backOf (W := 0) (rmpk l Z a0 hw [] b65 q1 q2 rem o1 o2 o4 o8 T119.heap n0 zs143 o119_1 o119_2 o119_3 o119_4 o119_5 o119_6 o119_7) hZ (hw _ (List.mem_of_getElem? (i := 77) rfl)) (hw _ (List.mem_of_getElem? (i := 4) rfl)) (by decide) (by decide)) q149a q149c (g := (mkF m 239 #[.val (.long q1), .second, .val (.long q2), .second, .val (.long q3), .second, .val (.int p4), .val (.long q5), .second, .val (.long q6), .second, .val (.long dd), .second, .val (.int g1), .val (.int g2), .val (.int g4), .val (.int g8), .val (.int g16), .val (.long o1), .second, .val (.long o2), .second, .val (.long o4), .second, .val (.long o8), .second, .val (.long rem), .second, .val (.ref b56), .val (.ref b65), .val (.int (0 : Int32))] [(.ref b65)])) rfl (by rw [hml]; rfl) (Steps.refl _) (argsL := []) (rest := []) (lenOf pd_90 rfl) rfl (by show 2 * 0 + _ ≤ _; exact Nat.le_of_eq rfl) (hb hby at_239) (fun _ _ => ⟨rfl, rfl, (by decide : 4 + 0 ≤ _), (by decide : 21 + 0 ≤ _)⟩)
                          dsimp only [Pt.U, Pt.locs, Pt.cells, Pt.slots] at X149 l149 y149 z149 st149 hQ149
                          subst l149 y149 z149
                          obtain ⟨rfl, N149q, e149⟩ := hQ149
                          have N150 := Fr.app N120 N149q
                          have hs151 : (fpk q1 q2 rem o1 o2 o4 o8) = (0 : Int32) := (own_pk p4 o1 o2 o4 o8 rem q1 q2 ho1 ho2 ho4 ho8 hrem).2 hc145
                          obtain ⟨fs, hr, hrun, hended, hW, hsame⟩ := X149.leave (v := some (.int (1 : Int32))) (fun h => by rw [Bd.returns] at h; cases h) Bd.notSynchronized
                          refine ⟨_, _, pre144 _ ?_, hrun, hended, _, _, rfl, ?_, ⟨_, rfl⟩, hW, hsame.mono (by decide) (by decide)⟩
                          · show Steps p.tables e below (T119.setTop (mkF m 227 #[.val (.long q1), .second, .val (.long q2), .second, .val (.long q3), .second, .val (.int p4), .val (.long q5), .second, .val (.long q6), .second, .val (.long dd), .second, .val (.int g1), .val (.int g2), .val (.int g4), .val (.int g8), .val (.int g16), .val (.long o1), .second, .val (.long o2), .second, .val (.long o4), .second, .val (.long o8), .second, .val (.long rem), .second, .val (.ref b56), .val (.ref b65), .unset] [(.int (p4 &&& (31 : Int32)))])) _
                            refine XS.ifYes X119.here hx rfl (pc0 := 227) (pc' := 234) rfl (hb hby at_227) rfl ((if0 _ _).trans (feq hc145).2) (by decide) (by decide) ?_
                            show Steps p.tables e below (T119.setTop (mkF m 234 #[.val (.long q1), .second, .val (.long q2), .second, .val (.long q3), .second, .val (.int p4), .val (.long q5), .second, .val (.long q6), .second, .val (.long dd), .second, .val (.int g1), .val (.int g2), .val (.int g4), .val (.int g8), .val (.int g16), .val (.long o1), .second, .val (.long o2), .second, .val (.long o4), .second, .val (.long o8), .second, .val (.long rem), .second, .val (.ref b56), .val (.ref b65), .unset] [])) _
                            refine XS.iconst X119.here hx rfl (hb hby at_234) ?_
                            show Steps p.tables e below (T119.setTop (mkF m 235 #[.val (.long q1), .second, .val (.long q2), .second, .val (.long q3), .second, .val (.int p4), .val (.long q5), .second, .val (.long q6), .second, .val (.long dd), .second, .val (.int g1), .val (.int g2), .val (.int g4), .val (.int g8), .val (.int g16), .val (.long o1), .second, .val (.long o2), .second, .val (.long o4), .second, .val (.long o8), .second, .val (.long rem), .second, .val (.ref b56), .val (.ref b65), .unset] [(.int (0 : Int32))])) _
                            refine XS.istore X119.here hx rfl (hb hby at_235) rfl (l' := #[.val (.long q1), .second, .val (.long q2), .second, .val (.long q3), .second, .val (.int p4), .val (.long q5), .second, .val (.long q6), .second, .val (.long dd), .second, .val (.int g1), .val (.int g2), .val (.int g4), .val (.int g8), .val (.int g16), .val (.long o1), .second, .val (.long o2), .second, .val (.long o4), .second, .val (.long o8), .second, .val (.long rem), .second, .val (.ref b56), .val (.ref b65), .val (.int (0 : Int32))]) rfl ?_
                            show Steps p.tables e below (T119.setTop (mkF m 237 #[.val (.long q1), .second, .val (.long q2), .second, .val (.long q3), .second, .val (.int p4), .val (.long q5), .second, .val (.long q6), .second, .val (.long dd), .second, .val (.int g1), .val (.int g2), .val (.int g4), .val (.int g8), .val (.int g16), .val (.long o1), .second, .val (.long o2), .second, .val (.long o4), .second, .val (.long o8), .second, .val (.long rem), .second, .val (.ref b56), .val (.ref b65), .val (.int (0 : Int32))] [])) _
                            refine XS.aload X119.here hx rfl (hb hby at_237) rfl rfl ?_
                            show Steps p.tables e below (T119.setTop (mkF m 239 #[.val (.long q1), .second, .val (.long q2), .second, .val (.long q3), .second, .val (.int p4), .val (.long q5), .second, .val (.long q6), .second, .val (.long dd), .second, .val (.int g1), .val (.int g2), .val (.int g4), .val (.int g8), .val (.int g16), .val (.long o1), .second, .val (.long o2), .second, .val (.long o4), .second, .val (.long o8), .second, .val (.long rem), .second, .val (.ref b56), .val (.ref b65), .val (.int (0 : Int32))] [(.ref b65)])) _
                            refine st149.trans ?_
                            show Steps p.tables e below (T149.setTop (mkF m 242 #[.val (.long q1), .second, .val (.long q2), .second, .val (.long q3), .second, .val (.int p4), .val (.long q5), .second, .val (.long q6), .second, .val (.long dd), .second, .val (.int g1), .val (.int g2), .val (.int g4), .val (.int g8), .val (.int g16), .val (.long o1), .second, .val (.long o2), .second, .val (.long o4), .second, .val (.long o8), .second, .val (.long rem), .second, .val (.ref b56), .val (.ref b65), .val (.int (0 : Int32))] [(.int (fpk q1 q2 rem o1 o2 o4 o8))])) _
                            refine XS.iload X149.here hx rfl (hb hby at_242) rfl ?_
                            show Steps p.tables e below (T149.setTop (mkF m 244 #[.val (.long q1), .second, .val (.long q2), .second, .val (.long q3), .second, .val (.int p4), .val (.long q5), .second, .val (.long q6), .second, .val (.long dd), .second, .val (.int g1), .val (.int g2), .val (.int g4), .val (.int g8), .val (.int g16), .val (.long o1), .second, .val (.long o2), .second, .val (.long o4), .second, .val (.long o8), .second, .val (.long rem), .second, .val (.ref b56), .val (.ref b65), .val (.int (0 : Int32))] [(.int (0 : Int32)), (.int (fpk q1 q2 rem o1 o2 o4 o8))])) _
                            refine XS.icmpNo X149.here hx rfl (hb hby at_244) rfl (teq hs151).2 ?_
                            show Steps p.tables e below (T149.setTop (mkF m 247 #[.val (.long q1), .second, .val (.long q2), .second, .val (.long q3), .second, .val (.int p4), .val (.long q5), .second, .val (.long q6), .second, .val (.long dd), .second, .val (.int g1), .val (.int g2), .val (.int g4), .val (.int g8), .val (.int g16), .val (.long o1), .second, .val (.long o2), .second, .val (.long o4), .second, .val (.long o8), .second, .val (.long rem), .second, .val (.ref b56), .val (.ref b65), .val (.int (0 : Int32))] [])) _
                            refine XS.iconst X149.here hx rfl (hb hby at_247) ?_
                            show Steps p.tables e below (T149.setTop (mkF m 248 #[.val (.long q1), .second, .val (.long q2), .second, .val (.long q3), .second, .val (.int p4), .val (.long q5), .second, .val (.long q6), .second, .val (.long dd), .second, .val (.int g1), .val (.int g2), .val (.int g4), .val (.int g8), .val (.int g16), .val (.long o1), .second, .val (.long o2), .second, .val (.long o4), .second, .val (.long o8), .second, .val (.long rem), .second, .val (.ref b56), .val (.ref b65), .val (.int (0 : Int32))] [(.int (1 : Int32))])) _
                            refine XS.goto X149.here hx rfl (pc0 := 248) (pc' := 252) rfl (hb hby at_248) (by decide) (by decide) ?_
                            show Steps p.tables e below (T149.setTop (mkF m 252 #[.val (.long q1), .second, .val (.long q2), .second, .val (.long q3), .second, .val (.int p4), .val (.long q5), .second, .val (.long q6), .second, .val (.long dd), .second, .val (.int g1), .val (.int g2), .val (.int g4), .val (.int g8), .val (.int g16), .val (.long o1), .second, .val (.long o2), .second, .val (.long o4), .second, .val (.long o8), .second, .val (.long rem), .second, .val (.ref b56), .val (.ref b65), .val (.int (0 : Int32))] [(.int (1 : Int32))])) _
                            exact retN X149 hx (t := .boolean) Bd.returns (by simp) (hb hby at_252) hr
                          · show Q0 Z q1 q2 q3 p4 q5 q6 cz h0 n0 _ T149.heap _
                            rw [e149]
                            exact ⟨rfl, N150⟩
set_option maxRecDepth 65536 in
set_option maxHeartbeats 40000000 in
theorem comes_1 {Post : Tables → Env → Array Value → State → Outcome → State → Prop} (hpost : ∀ tb e args s v u, (limb_1_1.after args s (.returned v) u = true ∧ limb_1_2.after args s (.returned v) u = true ∧ True) → FrameEnd s (.returned v) u (Jvm.fieldLocs frame_1_writes args s ++ Jvm.arrayLocs frame_1_arrays args s ++ Jvm.staticLocs frame_1_statics s) 16 128 → Post tb e args s (.returned v) u) :
    ArmFor flags0 classFile x code maxLocals ret World_1 tables_1 room_1 Calls_1 rest_1 Pre_1 Post := by
  intro l hfl _ _ p e ha hc hk s m args below hf hA hF happ hP
  obtain ⟨hcalls, hrest, hpre⟩ := hP
  obtain ⟨-, -, -, hnamed, -, -, -, hat⟩ := (Spec.applies_iff hf).mp happ
  obtain ⟨hg, hn⟩ := and_e (Cond.before_iff.mp (show (Jvm.Cond.and given_1 narrow_1).before args s = true from hpre))
  obtain ⟨gv1, gv2⟩ := and_e hg
  obtain ⟨gv3, gv4⟩ := and_e gv2
  obtain ⟨gv5, gv6⟩ := and_e gv4
  obtain ⟨gv7, gv8⟩ := and_e gv6
  obtain ⟨gv9, gv10⟩ := and_e gv8
  obtain ⟨gv11, gv12⟩ := and_e gv10
  obtain ⟨w0, w1, w2, w3, w4, w5, rfl⟩ : ∃ w0 w1 w2 w3 w4 w5 : Value, args = #[w0, w1, w2, w3, w4, w5] := by
    have hs : args.size = 6 := by simpa [Cond.value, given_1] using gv1
    obtain ⟨L⟩ := args
    match L, hs with
    | [w0, w1, w2, w3, w4, w5], _ => exact ⟨w0, w1, w2, w3, w4, w5, rfl⟩
  have hw := fun d (hd : d ∈ tables_1) => atoms_spec (ws := Jvm.Cond.code x code maxLocals ret :: tables_1) hat d (List.mem_cons_of_mem _ hd)
  obtain ⟨i0, ei0⟩ := isL_v gv3
  obtain rfl : w0 = (.long i0) := Option.some.inj ei0
  obtain ⟨i1, ei1⟩ := isL_v gv5
  obtain rfl : w1 = (.long i1) := Option.some.inj ei1
  obtain ⟨i2, ei2⟩ := isL_v gv7
  obtain rfl : w2 = (.long i2) := Option.some.inj ei2
  obtain ⟨i3, ei3⟩ := is_v gv9
  obtain rfl : w3 = (.int i3) := Option.some.inj ei3
  obtain ⟨i4, ei4⟩ := isL_v gv11
  obtain rfl : w4 = (.long i4) := Option.some.inj ei4
  obtain ⟨i5, ei5⟩ := isL_v gv12
  obtain rfl : w5 = (.long i5) := Option.some.inj ei5
  have O0 := Old.start s
  obtain ⟨hsets, hown0⟩ := atoms_of _ (rest_1_c_eq ▸ (show rest_1_c.before _ s = true from hrest))
  have n3 := not_v (Cond.before_iff.mp (hsets _ (List.mem_of_getElem? (i := 2) rfl)))
  obtain ⟨cz, ecz⟩ := is_v (Cond.before_iff.mp (hsets _ (List.mem_of_getElem? (i := 1) rfl)))
  have S_C : Sta s s.heap "java/lang/String" "COMPACT_STRINGS" "Z" (.int cz) := Sta.start ecz (Or.inl (hsets _ (List.mem_of_getElem? (i := 0) rfl)))
  have hcz : ¬ (cz = (0 : Int32)) := gotF (Cond.eq_ints ecz (Term.int_eval (0))) n3
  obtain ⟨n, o, h1, h2, h3, _, L, rfl, ⟨rfl, N⟩, hq⟩ := rm0 l s _ hw tables_1 i0 i1 i2 i3 i4 i5 cz s.heap s.heap.size (Nat.le_refl _) O0 S_C hcz p e ha hc hk s m _ below hf ((Spec.applies_iff_loose hf).mp happ).1 ⟨rfl, State.Warmed39.refl s, rfl⟩ trivial
  refine ⟨n, _, h1, h2, h3, hpost _ _ _ _ _ _ ⟨Cond.after_iff.mpr rfl, Cond.after_iff.mpr (eq_i res_at (Term.int_eval (1)) rfl), trivial⟩ ⟨hq.1, hq.2.1, (hq.2.2.sift fun y hy => Or.inr (N y hy)).mono (by decide) (by decide)⟩⟩
theorem main_1_1 : Claimed_1_1 := comes_1 fun _ _ _ _ _ _ h hF => ⟨h.1, hF⟩
theorem main_1_2 : Claimed_1_2 := comes_1 fun _ _ _ _ _ _ h hF => ⟨h.2.1, hF⟩
end Jvm.Pilot.@@N@@
namespace Jvm.Pilot.@@N@@
open Jvm Jvm.ClassFile Sem Op Lib Jvm.Free Jvm.Stand Jvm.Pilot.@@N@@.Jvm.D
/-! MADE BY PROGRAM (witnessworld.py) out of the Statement's table words and the real class files: 21 classes; the members and pool entries that the words name. The judged class is class 1, her method 1. -/
namespace start1
open Jvm.ClassFile
def u (s : String) : CpInfo := .utf8 (stringToUtf16 s)
/-- a pool by its gaps: so many unusable entries, then the entry; so many at the end -/
def gap : Nat → List CpInfo → List CpInfo
  | 0, r => r
  | n + 1, r => .unusable :: gap n r
def poolList (es : List (Nat × CpInfo)) (last : Nat) : List CpInfo := es.foldr (fun e r => gap e.1 (e.2 :: r)) (gap last [])
def pool (es : List (Nat × CpInfo)) (last : Nat) : Array CpInfo := ⟨poolList es last⟩
def fileOf (pool : Array CpInfo) (this : Nat) (attrs : Array Attribute := #[]) (ms : Array MethodInfo := #[]) (fl : Nat := 33) (sup : Nat := 0) (ifs : Array Nat := #[]) (fds : Array FieldInfo := #[]) : ClassFile where
  minorVersion := 0
  majorVersion := 65
  constantPool := pool
  accessFlags := fl
  thisClass := this
  superClass := sup
  interfaces := ifs
  fields := fds
  methods := ms
  attributes := attrs
def plain (name : String) (sup : Option ClassId) : Class where
  name := name
  kind := .ordinary
  loader := none
  accessFlags := 33
  super := sup
  interfaces := #[]
  cf := none
  fields := #[]
  methods := #[]
  instanceTypes := #[]
  staticTypes := #[]
  resolved := #[]
  callSites := []
  init := .initialized
  statics := none
  mirror := none

def pool0 : Array CpInfo := pool [(5, u "<init>"), (0, u "()V"), (1, .class_ 10), (1, u "java/lang/Object")] 113

def k0c0 : Code := { maxStack := 0, maxLocals := 1, code := object_method_1_code, exceptionTable := #[], attributes := #[] }
def k0m0 : Method := { name := "<init>", desc := "()V", sig := { parameters := [], returnType := none }, accessFlags := 1, code := some k0c0 }
/-- java/lang/Object -/
def k0 : Class := { plain "java/lang/Object" none with
  accessFlags := 33
  interfaces := #[]
  cf := some (fileOf pool0 8 #[] #[{ accessFlags := 1, nameIndex := 5, descriptorIndex := 6, attributes := #[] }] 33 0 #[] #[])
  fields := #[]
  methods := #[k0m0]
  instanceTypes := #[]
  staticTypes := #[]
  resolved := Array.replicate 124 none
  statics := none }

def pool1 : Array CpInfo := pool [(2, .class_ 4), (1, u "java/lang/Object"), (0, u "<init>"), (0, u "()V"), (0, .long 255), (1, .class_ 10), (0, u "com/example/strict_quota/strictquota/Audit"), (0, .class_ 12), (0, u "java/lang/String"), (0, .methodref 11 14), (0, .nameAndType 5 15), (0, u "([C)V"), (0, .methodref 9 17), (0, .nameAndType 5 18), (0, u "(Ljava/lang/String;JJJJJJJJJJJJJJ)V"), (0, .methodref 9 20), (0, .nameAndType 21 22), (0, u "promisesKept"), (0, u "()Z"), (0, .class_ 24), (0, u "com/example/strict_quota/strictquota/AuditPromisesKeptPinLaw"), (2, u "law"), (0, u "(JJJIJJ)Z")] 5

def k1m0 : Method := { name := "<init>", desc := "()V", sig := { parameters := [], returnType := none }, accessFlags := 1, code := none }
def k1c1 : Code := { maxStack := 31, maxLocals := 31, code := code, exceptionTable := #[], attributes := #[] }
def k1m1 : Method := { name := "law", desc := "(JJJIJJ)Z", sig := { parameters := [.long, .long, .long, .int, .long, .long], returnType := some .boolean }, accessFlags := 9, code := some k1c1 }
/-- com/example/strict_quota/strictquota/AuditPromisesKeptPinLaw -/
def k1 : Class := { plain "com/example/strict_quota/strictquota/AuditPromisesKeptPinLaw" (some 0) with
  accessFlags := 49
  interfaces := #[]
  cf := some (fileOf pool1 23 #[] #[{ accessFlags := 1, nameIndex := 5, descriptorIndex := 6, attributes := #[] }, { accessFlags := 9, nameIndex := 27, descriptorIndex := 28, attributes := #[] }] 49 2 #[] #[])
  fields := #[]
  methods := #[k1m0, k1m1]
  instanceTypes := #[]
  staticTypes := #[]
  resolved := Array.replicate 34 none
  statics := none }

def pool2 : Array CpInfo := pool [(1, .methodref 2 3), (0, .class_ 4), (0, .nameAndType 5 6), (0, u "java/lang/Object"), (0, u "<init>"), (0, u "()V"), (0, .class_ 8), (0, u "java/lang/Record")] 13

def k2c0 : Code := { maxStack := 1, maxLocals := 1, code := jdk_30_method_1_code, exceptionTable := #[], attributes := #[] }
def k2m0 : Method := { name := "<init>", desc := "()V", sig := { parameters := [], returnType := none }, accessFlags := 4, code := some k2c0 }
/-- java/lang/Record -/
def k2 : Class := { plain "java/lang/Record" (some 0) with
  accessFlags := 1057
  interfaces := #[]
  cf := some (fileOf pool2 7 #[] #[{ accessFlags := 4, nameIndex := 5, descriptorIndex := 6, attributes := #[] }] 1057 2 #[] #[])
  fields := #[]
  methods := #[k2m0]
  instanceTypes := #[]
  staticTypes := #[]
  resolved := Array.replicate 22 none
  statics := none }

def pool3 : Array CpInfo := pool [(1, .methodref 2 3), (0, .class_ 4), (0, .nameAndType 5 6), (0, u "java/lang/Record"), (0, u "<init>"), (0, u "()V"), (0, .fieldref 8 9), (0, .class_ 10), (0, .nameAndType 11 12), (0, u "com/example/strict_quota/strictquota/Audit"), (0, u "pool"), (0, u "Ljava/lang/String;"), (0, .fieldref 8 14), (0, .nameAndType 15 16), (0, u "capacity"), (0, u "J"), (0, .fieldref 8 18), (0, .nameAndType 19 16), (0, u "ceiling"), (0, .fieldref 8 21), (0, .nameAndType 22 16), (0, u "issued"), (0, .fieldref 8 24), (0, .nameAndType 25 16), (0, u "remaining"), (0, .fieldref 8 27), (0, .nameAndType 28 16), (0, u "grants"), (0, .fieldref 8 30), (0, .nameAndType 31 16), (0, u "returned"), (0, .fieldref 8 33), (0, .nameAndType 34 16), (0, u "holders"), (0, .fieldref 8 36), (0, .nameAndType 37 16), (0, u "maxPerHolder"), (0, .fieldref 8 39), (0, .nameAndType 40 16), (0, u "overCapacity"), (0, .fieldref 8 42), (0, .nameAndType 43 16), (0, u "overCeiling"), (0, .fieldref 8 45), (0, .nameAndType 46 16), (0, u "sequenceFirst"), (0, .fieldref 8 48), (0, .nameAndType 49 16), (0, u "sequenceLast"), (0, .fieldref 8 51), (0, .nameAndType 52 16), (0, u "sequenceMissing"), (0, .fieldref 8 54), (0, .nameAndType 55 16), (0, u "sequenceRepeated"), (64, u "()Z"), (31, u "(Ljava/lang/String;JJJJJJJJJJJJJJ)V"), (20, u "promisesKept")] 50

def k3c0 : Code := { maxStack := 3, maxLocals := 30, code := prog_2_method_1_code, exceptionTable := #[], attributes := #[] }
def k3m0 : Method := { name := "<init>", desc := "(Ljava/lang/String;JJJJJJJJJJJJJJ)V", sig := { parameters := [(.object "java/lang/String"), .long, .long, .long, .long, .long, .long, .long, .long, .long, .long, .long, .long, .long, .long], returnType := none }, accessFlags := 1, code := some k3c0 }
def k3c1 : Code := { maxStack := 6, maxLocals := 1, code := prog_2_method_3_code, exceptionTable := #[], attributes := #[] }
def k3m1 : Method := { name := "promisesKept", desc := "()Z", sig := { parameters := [], returnType := some .boolean }, accessFlags := 1, code := some k3c1 }
/-- com/example/strict_quota/strictquota/Audit -/
def k3 : Class := { plain "com/example/strict_quota/strictquota/Audit" (some 2) with
  accessFlags := 49
  interfaces := #[]
  cf := some (fileOf pool3 8 #[] #[{ accessFlags := 1, nameIndex := 5, descriptorIndex := 152, attributes := #[] }, { accessFlags := 1, nameIndex := 173, descriptorIndex := 120, attributes := #[] }] 49 2 #[] #[{ accessFlags := 18, nameIndex := 11, descriptorIndex := 12, attributes := #[] }, { accessFlags := 18, nameIndex := 15, descriptorIndex := 16, attributes := #[] }, { accessFlags := 18, nameIndex := 19, descriptorIndex := 16, attributes := #[] }, { accessFlags := 18, nameIndex := 22, descriptorIndex := 16, attributes := #[] }, { accessFlags := 18, nameIndex := 25, descriptorIndex := 16, attributes := #[] }, { accessFlags := 18, nameIndex := 28, descriptorIndex := 16, attributes := #[] }, { accessFlags := 18, nameIndex := 31, descriptorIndex := 16, attributes := #[] }, { accessFlags := 18, nameIndex := 34, descriptorIndex := 16, attributes := #[] }, { accessFlags := 18, nameIndex := 37, descriptorIndex := 16, attributes := #[] }, { accessFlags := 18, nameIndex := 40, descriptorIndex := 16, attributes := #[] }, { accessFlags := 18, nameIndex := 43, descriptorIndex := 16, attributes := #[] }, { accessFlags := 18, nameIndex := 46, descriptorIndex := 16, attributes := #[] }, { accessFlags := 18, nameIndex := 49, descriptorIndex := 16, attributes := #[] }, { accessFlags := 18, nameIndex := 52, descriptorIndex := 16, attributes := #[] }, { accessFlags := 18, nameIndex := 55, descriptorIndex := 16, attributes := #[] }])
  fields := #[{ name := "pool", type := (.object "java/lang/String"), accessFlags := 18, slot := 0, constantValue := 0 }, { name := "capacity", type := .long, accessFlags := 18, slot := 1, constantValue := 0 }, { name := "ceiling", type := .long, accessFlags := 18, slot := 2, constantValue := 0 }, { name := "issued", type := .long, accessFlags := 18, slot := 3, constantValue := 0 }, { name := "remaining", type := .long, accessFlags := 18, slot := 4, constantValue := 0 }, { name := "grants", type := .long, accessFlags := 18, slot := 5, constantValue := 0 }, { name := "returned", type := .long, accessFlags := 18, slot := 6, constantValue := 0 }, { name := "holders", type := .long, accessFlags := 18, slot := 7, constantValue := 0 }, { name := "maxPerHolder", type := .long, accessFlags := 18, slot := 8, constantValue := 0 }, { name := "overCapacity", type := .long, accessFlags := 18, slot := 9, constantValue := 0 }, { name := "overCeiling", type := .long, accessFlags := 18, slot := 10, constantValue := 0 }, { name := "sequenceFirst", type := .long, accessFlags := 18, slot := 11, constantValue := 0 }, { name := "sequenceLast", type := .long, accessFlags := 18, slot := 12, constantValue := 0 }, { name := "sequenceMissing", type := .long, accessFlags := 18, slot := 13, constantValue := 0 }, { name := "sequenceRepeated", type := .long, accessFlags := 18, slot := 14, constantValue := 0 }]
  methods := #[k3m0, k3m1]
  instanceTypes := #[(.object "java/lang/String"), .long, .long, .long, .long, .long, .long, .long, .long, .long, .long, .long, .long, .long, .long]
  staticTypes := #[]
  resolved := Array.replicate 224 none
  statics := none }

def pool4 : Array CpInfo := pool [(1, .class_ 2), (0, u "java/io/Serializable"), (0, .class_ 4), (0, u "java/lang/Object")] 2

/-- java/io/Serializable -/
def k4 : Class := { plain "java/io/Serializable" (some 0) with
  accessFlags := 1537
  interfaces := #[]
  cf := some (fileOf pool4 1 #[] #[] 1537 3 #[] #[])
  fields := #[]
  methods := #[]
  instanceTypes := #[]
  staticTypes := #[]
  resolved := Array.replicate 7 none
  statics := none }

def pool5 : Array CpInfo := pool [(1, .class_ 2), (0, u "java/lang/Comparable"), (0, .class_ 4), (0, u "java/lang/Object")] 7

/-- java/lang/Comparable -/
def k5 : Class := { plain "java/lang/Comparable" (some 0) with
  accessFlags := 1537
  interfaces := #[]
  cf := some (fileOf pool5 1 #[] #[] 1537 3 #[] #[])
  fields := #[]
  methods := #[]
  instanceTypes := #[]
  staticTypes := #[]
  resolved := Array.replicate 12 none
  statics := none }

def pool6 : Array CpInfo := pool [(2, .class_ 4), (1, u "java/lang/CharSequence"), (42, .class_ 48), (0, u "java/lang/CharSequence$1CodePointIterator"), (10, .class_ 60), (0, u "java/lang/CharSequence$1CharIterator"), (5, .class_ 67), (0, u "java/lang/Object")] 63

/-- java/lang/CharSequence -/
def k6 : Class := { plain "java/lang/CharSequence" (some 0) with
  accessFlags := 1537
  interfaces := #[]
  cf := some (fileOf pool6 2 #[.nestMembers #[47, 59]] #[] 1537 66 #[] #[])
  fields := #[]
  methods := #[]
  instanceTypes := #[]
  staticTypes := #[]
  resolved := Array.replicate 131 none
  statics := none }

def pool7 : Array CpInfo := pool [(1, .class_ 2), (0, u "java/lang/constant/Constable"), (0, .class_ 4), (0, u "java/lang/Object")] 6

/-- java/lang/constant/Constable -/
def k7 : Class := { plain "java/lang/constant/Constable" (some 0) with
  accessFlags := 1537
  interfaces := #[]
  cf := some (fileOf pool7 1 #[] #[] 1537 3 #[] #[])
  fields := #[]
  methods := #[]
  instanceTypes := #[]
  staticTypes := #[]
  resolved := Array.replicate 11 none
  statics := none }

def pool8 : Array CpInfo := pool [(1, .class_ 2), (0, u "java/lang/constant/ConstantDesc"), (0, .class_ 4), (0, u "java/lang/Object")] 32

/-- java/lang/constant/ConstantDesc -/
def k8 : Class := { plain "java/lang/constant/ConstantDesc" (some 0) with
  accessFlags := 1537
  interfaces := #[]
  cf := some (fileOf pool8 1 #[] #[] 1537 3 #[] #[])
  fields := #[]
  methods := #[]
  instanceTypes := #[]
  staticTypes := #[]
  resolved := Array.replicate 37 none
  statics := none }

def pool9 : Array CpInfo := pool [(1, .methodref 2 3), (0, .class_ 4), (0, .nameAndType 5 6), (0, u "java/lang/Object"), (0, u "<init>"), (0, u "()V"), (2, .fieldref 10 11), (0, .class_ 12), (0, .nameAndType 13 14), (0, u "java/lang/String"), (0, u "value"), (0, u "[B"), (0, .fieldref 10 16), (0, .nameAndType 17 18), (0, u "coder"), (0, u "B"), (2, u "hash"), (0, u "I"), (2, u "hashIsZero"), (0, u "Z"), (0, .methodref 10 28), (0, .nameAndType 5 29), (0, u "([CIILjava/lang/Void;)V"), (8, .fieldref 10 39), (0, .nameAndType 40 26), (0, u "COMPACT_STRINGS"), (1, .class_ 44), (1, u "java/lang/StringUTF16"), (0, u "compress"), (1, .methodref 42 48), (0, .nameAndType 49 50), (0, u "coderFromArrayLen"), (0, u "([BI)B"), (126, .methodref 42 178), (0, .nameAndType 45 179), (0, u "([CII)[B"), (395, .class_ 576), (0, u "java/lang/CharSequence"), (22, u "CASE_INSENSITIVE_ORDER"), (0, u "Ljava/util/Comparator;"), (409, u "([C)V"), (90, u "serialPersistentFields"), (0, u "[Ljava/io/ObjectStreamField;"), (0, .class_ 1104), (0, u "java/lang/String$CaseInsensitiveComparator"), (1, .class_ 1107), (0, u "java/io/Serializable"), (0, .class_ 1109), (0, u "java/lang/Comparable"), (0, .class_ 1111), (0, u "java/lang/constant/Constable"), (0, .class_ 1113), (0, u "java/lang/constant/ConstantDesc"), (2, u "serialVersionUID"), (0, u "J"), (3, u "REPL"), (0, u "C"), (2, u "LATIN1"), (1, u "UTF16")] 323

def k9m0 : Method := { name := "<init>", desc := "()V", sig := { parameters := [], returnType := none }, accessFlags := 1, code := none }
def k9c1 : Code := { maxStack := 5, maxLocals := 2, code := jdk_42_method_3_code, exceptionTable := #[], attributes := #[] }
def k9m1 : Method := { name := "<init>", desc := "([C)V", sig := { parameters := [(.array .char)], returnType := none }, accessFlags := 1, code := some k9c1 }
def k9c2 : Code := { maxStack := 4, maxLocals := 6, code := jdk_42_method_149_code, exceptionTable := #[], attributes := #[] }
def k9m2 : Method := { name := "<init>", desc := "([CIILjava/lang/Void;)V", sig := { parameters := [(.array .char), .int, .int, (.object "java/lang/Void")], returnType := none }, accessFlags := 2, code := some k9c2 }
/-- java/lang/String -/
def k9 : Class := { plain "java/lang/String" (some 0) with
  accessFlags := 49
  interfaces := #[4, 5, 6, 7, 8]
  cf := some (fileOf pool9 10 #[.nestMembers #[1103]] #[{ accessFlags := 1, nameIndex := 5, descriptorIndex := 6, attributes := #[] }, { accessFlags := 1, nameIndex := 5, descriptorIndex := 1010, attributes := #[] }, { accessFlags := 2, nameIndex := 5, descriptorIndex := 29, attributes := #[] }] 49 2 #[1106, 1108, 575, 1110, 1112] #[{ accessFlags := 18, nameIndex := 13, descriptorIndex := 14, attributes := #[] }, { accessFlags := 18, nameIndex := 17, descriptorIndex := 18, attributes := #[] }, { accessFlags := 2, nameIndex := 21, descriptorIndex := 22, attributes := #[] }, { accessFlags := 2, nameIndex := 25, descriptorIndex := 26, attributes := #[] }, { accessFlags := 26, nameIndex := 1116, descriptorIndex := 1117, attributes := #[] }, { accessFlags := 24, nameIndex := 40, descriptorIndex := 26, attributes := #[] }, { accessFlags := 26, nameIndex := 1101, descriptorIndex := 1102, attributes := #[] }, { accessFlags := 26, nameIndex := 1121, descriptorIndex := 1122, attributes := #[] }, { accessFlags := 25, nameIndex := 599, descriptorIndex := 600, attributes := #[] }, { accessFlags := 24, nameIndex := 1125, descriptorIndex := 18, attributes := #[] }, { accessFlags := 24, nameIndex := 1127, descriptorIndex := 18, attributes := #[] }])
  fields := #[{ name := "value", type := (.array .byte), accessFlags := 18, slot := 0, constantValue := 0 }, { name := "coder", type := .byte, accessFlags := 18, slot := 1, constantValue := 0 }, { name := "hash", type := .int, accessFlags := 2, slot := 2, constantValue := 0 }, { name := "hashIsZero", type := .boolean, accessFlags := 2, slot := 3, constantValue := 0 }, { name := "serialVersionUID", type := .long, accessFlags := 26, slot := 0, constantValue := 0 }, { name := "COMPACT_STRINGS", type := .boolean, accessFlags := 24, slot := 1, constantValue := 0 }, { name := "serialPersistentFields", type := (.array (.object "java/io/ObjectStreamField")), accessFlags := 26, slot := 2, constantValue := 0 }, { name := "REPL", type := .char, accessFlags := 26, slot := 3, constantValue := 0 }, { name := "CASE_INSENSITIVE_ORDER", type := (.object "java/util/Comparator"), accessFlags := 25, slot := 4, constantValue := 0 }, { name := "LATIN1", type := .byte, accessFlags := 24, slot := 5, constantValue := 0 }, { name := "UTF16", type := .byte, accessFlags := 24, slot := 6, constantValue := 0 }]
  methods := #[k9m0, k9m1, k9m2]
  instanceTypes := #[(.array .byte), .byte, .int, .boolean]
  staticTypes := #[.long, .boolean, (.array (.object "java/io/ObjectStreamField")), .char, (.object "java/util/Comparator"), .byte, .byte]
  resolved := Array.replicate 1451 none
  statics := some 0 }

def pool10 : Array CpInfo := pool [(6, .class_ 8), (1, u "java/lang/Object"), (0, u "<init>"), (0, u "()V"), (1, .class_ 14), (1, u "java/lang/StringUTF16"), (31, u "$assertionsDisabled"), (0, u "Z"), (13, u "HI_BYTE_SHIFT"), (0, u "I"), (2, u "LO_BYTE_SHIFT"), (49, .methodref 12 116), (0, .nameAndType 117 118), (0, u "compress"), (0, u "([CI[BII)I"), (3, u "([CII)[B"), (138, u "coderFromArrayLen"), (0, u "([BI)B"), (106, .class_ 371), (1, u "java/lang/StringUTF16$LinesSpliterator"), (58, u "MAX_LENGTH"), (196, .class_ 628), (0, u "java/lang/StringUTF16$CodePointsSpliterator"), (0, .class_ 630), (0, u "java/lang/StringUTF16$CharsSpliterator")] 4

def k10m0 : Method := { name := "<init>", desc := "()V", sig := { parameters := [], returnType := none }, accessFlags := 0, code := none }
def k10c1 : Code := { maxStack := 2, maxLocals := 2, code := jdk_52_method_15_code, exceptionTable := #[], attributes := #[] }
def k10m1 : Method := { name := "coderFromArrayLen", desc := "([BI)B", sig := { parameters := [(.array .byte), .int], returnType := some .byte }, accessFlags := 8, code := some k10c1 }
def k10c2 : Code := { maxStack := 5, maxLocals := 6, code := jdk_52_method_16_code, exceptionTable := #[], attributes := #[] }
def k10m2 : Method := { name := "compress", desc := "([CII)[B", sig := { parameters := [(.array .char), .int, .int], returnType := some (.array .byte) }, accessFlags := 9, code := some k10c2 }
def k10c3 : Code := { maxStack := 3, maxLocals := 7, code := jdk_52_method_21_code, exceptionTable := #[], attributes := #[] }
def k10m3 : Method := { name := "compress", desc := "([CI[BII)I", sig := { parameters := [(.array .char), .int, (.array .byte), .int, .int], returnType := some .int }, accessFlags := 9, code := some k10c3 }
/-- java/lang/StringUTF16 -/
def k10 : Class := { plain "java/lang/StringUTF16" (some 0) with
  accessFlags := 48
  interfaces := #[]
  cf := some (fileOf pool10 12 #[.nestMembers #[627, 629, 369]] #[{ accessFlags := 0, nameIndex := 9, descriptorIndex := 10, attributes := #[] }, { accessFlags := 8, nameIndex := 261, descriptorIndex := 262, attributes := #[] }, { accessFlags := 9, nameIndex := 117, descriptorIndex := 122, attributes := #[] }, { accessFlags := 9, nameIndex := 117, descriptorIndex := 118, attributes := #[] }] 48 6 #[] #[{ accessFlags := 26, nameIndex := 61, descriptorIndex := 62, attributes := #[] }, { accessFlags := 26, nameIndex := 65, descriptorIndex := 62, attributes := #[] }, { accessFlags := 24, nameIndex := 430, descriptorIndex := 62, attributes := #[] }, { accessFlags := 4120, nameIndex := 46, descriptorIndex := 47, attributes := #[] }])
  fields := #[{ name := "HI_BYTE_SHIFT", type := .int, accessFlags := 26, slot := 0, constantValue := 0 }, { name := "LO_BYTE_SHIFT", type := .int, accessFlags := 26, slot := 1, constantValue := 0 }, { name := "MAX_LENGTH", type := .int, accessFlags := 24, slot := 2, constantValue := 0 }, { name := "$assertionsDisabled", type := .boolean, accessFlags := 4120, slot := 3, constantValue := 0 }]
  methods := #[k10m0, k10m1, k10m2, k10m3]
  instanceTypes := #[]
  staticTypes := #[.int, .int, .int, .boolean]
  resolved := Array.replicate 635 none
  statics := none }

def pool11 : Array CpInfo := pool [(4, .class_ 6), (1, u "java/lang/Object"), (0, u "<init>"), (0, u "()V"), (5, .class_ 16), (1, u "java/lang/StringLatin1"), (104, u "$assertionsDisabled"), (0, u "Z"), (98, .class_ 223), (1, u "java/lang/StringLatin1$LinesSpliterator"), (166, .class_ 391), (0, u "java/lang/StringLatin1$CharsSpliterator")] 3

def k11m0 : Method := { name := "<init>", desc := "()V", sig := { parameters := [], returnType := none }, accessFlags := 0, code := none }
/-- java/lang/StringLatin1 -/
def k11 : Class := { plain "java/lang/StringLatin1" (some 0) with
  accessFlags := 48
  interfaces := #[]
  cf := some (fileOf pool11 14 #[.nestMembers #[390, 221]] #[{ accessFlags := 0, nameIndex := 7, descriptorIndex := 8, attributes := #[] }] 48 4 #[] #[{ accessFlags := 4120, nameIndex := 121, descriptorIndex := 122, attributes := #[] }])
  fields := #[{ name := "$assertionsDisabled", type := .boolean, accessFlags := 4120, slot := 0, constantValue := 0 }]
  methods := #[k11m0]
  instanceTypes := #[]
  staticTypes := #[.boolean]
  resolved := Array.replicate 395 none
  statics := none }

def pool12 : Array CpInfo := pool [(2, .class_ 4), (1, u "java/lang/Object"), (0, u "<init>"), (0, u "()V"), (17, .class_ 26), (1, u "jdk/internal/util/Preconditions"), (28, .class_ 56), (0, u "jdk/internal/util/Preconditions$4"), (57, .class_ 115), (0, u "jdk/internal/util/Preconditions$1"), (7, u "SIOOBE_FORMATTER"), (0, u "Ljava/util/function/BiFunction;"), (0, .class_ 126), (0, u "jdk/internal/util/Preconditions$2"), (3, u "AIOOBE_FORMATTER"), (0, .class_ 132), (0, u "jdk/internal/util/Preconditions$3"), (3, u "IOOBE_FORMATTER")] 57

def k12m0 : Method := { name := "<init>", desc := "()V", sig := { parameters := [], returnType := none }, accessFlags := 1, code := none }
/-- jdk/internal/util/Preconditions -/
def k12 : Class := { plain "jdk/internal/util/Preconditions" (some 0) with
  accessFlags := 33
  interfaces := #[]
  cf := some (fileOf pool12 24 #[.nestMembers #[55, 131, 125, 114]] #[{ accessFlags := 1, nameIndex := 5, descriptorIndex := 6, attributes := #[] }] 33 2 #[] #[{ accessFlags := 25, nameIndex := 123, descriptorIndex := 124, attributes := #[] }, { accessFlags := 25, nameIndex := 130, descriptorIndex := 124, attributes := #[] }, { accessFlags := 25, nameIndex := 136, descriptorIndex := 124, attributes := #[] }])
  fields := #[{ name := "SIOOBE_FORMATTER", type := (.object "java/util/function/BiFunction"), accessFlags := 25, slot := 0, constantValue := 0 }, { name := "AIOOBE_FORMATTER", type := (.object "java/util/function/BiFunction"), accessFlags := 25, slot := 1, constantValue := 0 }, { name := "IOOBE_FORMATTER", type := (.object "java/util/function/BiFunction"), accessFlags := 25, slot := 2, constantValue := 0 }]
  methods := #[k12m0]
  instanceTypes := #[]
  staticTypes := #[(.object "java/util/function/BiFunction"), (.object "java/util/function/BiFunction"), (.object "java/util/function/BiFunction")]
  resolved := Array.replicate 194 none
  statics := some 1 }

def pool13 : Array CpInfo := pool [(9, u "<init>"), (6, .class_ 18), (1, u "java/lang/Object"), (0, u "()V"), (1, .class_ 23), (1, u "jdk/internal/util/ArraysSupport"), (0, u "LOG2_ARRAY_LONG_INDEX_SCALE"), (0, u "I"), (2, u "U"), (0, u "Ljdk/internal/misc/Unsafe;"), (8, u "BIG_ENDIAN"), (0, u "Z"), (8, u "LOG2_BYTE_BIT_SIZE"), (4, u "LOG2_ARRAY_INT_INDEX_SCALE"), (54, u "JLA"), (0, u "Ljdk/internal/access/JavaLangAccess;"), (11, u "LOG2_ARRAY_BOOLEAN_INDEX_SCALE"), (9, u "LOG2_ARRAY_BYTE_INDEX_SCALE"), (5, u "LOG2_ARRAY_CHAR_INDEX_SCALE"), (5, u "LOG2_ARRAY_SHORT_INDEX_SCALE"), (18, u "LOG2_ARRAY_FLOAT_INDEX_SCALE"), (24, u "LOG2_ARRAY_DOUBLE_INDEX_SCALE"), (89, u "T_BOOLEAN"), (2, u "T_CHAR"), (1, u "T_FLOAT"), (1, u "T_DOUBLE"), (1, u "T_BYTE"), (1, u "T_SHORT"), (1, u "T_INT"), (1, u "T_LONG"), (1, u "SOFT_MAX_ARRAY_LENGTH")] 83

def k13m0 : Method := { name := "<init>", desc := "()V", sig := { parameters := [], returnType := none }, accessFlags := 2, code := none }
/-- jdk/internal/util/ArraysSupport -/
def k13 : Class := { plain "jdk/internal/util/ArraysSupport" (some 0) with
  accessFlags := 33
  interfaces := #[]
  cf := some (fileOf pool13 21 #[] #[{ accessFlags := 2, nameIndex := 9, descriptorIndex := 19, attributes := #[] }] 33 16 #[] #[{ accessFlags := 24, nameIndex := 28, descriptorIndex := 29, attributes := #[] }, { accessFlags := 26, nameIndex := 38, descriptorIndex := 39, attributes := #[] }, { accessFlags := 25, nameIndex := 121, descriptorIndex := 25, attributes := #[] }, { accessFlags := 25, nameIndex := 131, descriptorIndex := 25, attributes := #[] }, { accessFlags := 25, nameIndex := 137, descriptorIndex := 25, attributes := #[] }, { accessFlags := 25, nameIndex := 143, descriptorIndex := 25, attributes := #[] }, { accessFlags := 25, nameIndex := 53, descriptorIndex := 25, attributes := #[] }, { accessFlags := 25, nameIndex := 24, descriptorIndex := 25, attributes := #[] }, { accessFlags := 25, nameIndex := 162, descriptorIndex := 25, attributes := #[] }, { accessFlags := 25, nameIndex := 187, descriptorIndex := 25, attributes := #[] }, { accessFlags := 26, nameIndex := 48, descriptorIndex := 25, attributes := #[] }, { accessFlags := 25, nameIndex := 277, descriptorIndex := 25, attributes := #[] }, { accessFlags := 25, nameIndex := 280, descriptorIndex := 25, attributes := #[] }, { accessFlags := 25, nameIndex := 282, descriptorIndex := 25, attributes := #[] }, { accessFlags := 25, nameIndex := 284, descriptorIndex := 25, attributes := #[] }, { accessFlags := 25, nameIndex := 286, descriptorIndex := 25, attributes := #[] }, { accessFlags := 25, nameIndex := 288, descriptorIndex := 25, attributes := #[] }, { accessFlags := 25, nameIndex := 290, descriptorIndex := 25, attributes := #[] }, { accessFlags := 25, nameIndex := 292, descriptorIndex := 25, attributes := #[] }, { accessFlags := 26, nameIndex := 108, descriptorIndex := 109, attributes := #[] }, { accessFlags := 25, nameIndex := 294, descriptorIndex := 25, attributes := #[] }])
  fields := #[{ name := "U", type := (.object "jdk/internal/misc/Unsafe"), accessFlags := 24, slot := 0, constantValue := 0 }, { name := "BIG_ENDIAN", type := .boolean, accessFlags := 26, slot := 1, constantValue := 0 }, { name := "LOG2_ARRAY_BOOLEAN_INDEX_SCALE", type := .int, accessFlags := 25, slot := 2, constantValue := 0 }, { name := "LOG2_ARRAY_BYTE_INDEX_SCALE", type := .int, accessFlags := 25, slot := 3, constantValue := 0 }, { name := "LOG2_ARRAY_CHAR_INDEX_SCALE", type := .int, accessFlags := 25, slot := 4, constantValue := 0 }, { name := "LOG2_ARRAY_SHORT_INDEX_SCALE", type := .int, accessFlags := 25, slot := 5, constantValue := 0 }, { name := "LOG2_ARRAY_INT_INDEX_SCALE", type := .int, accessFlags := 25, slot := 6, constantValue := 0 }, { name := "LOG2_ARRAY_LONG_INDEX_SCALE", type := .int, accessFlags := 25, slot := 7, constantValue := 0 }, { name := "LOG2_ARRAY_FLOAT_INDEX_SCALE", type := .int, accessFlags := 25, slot := 8, constantValue := 0 }, { name := "LOG2_ARRAY_DOUBLE_INDEX_SCALE", type := .int, accessFlags := 25, slot := 9, constantValue := 0 }, { name := "LOG2_BYTE_BIT_SIZE", type := .int, accessFlags := 26, slot := 10, constantValue := 0 }, { name := "T_BOOLEAN", type := .int, accessFlags := 25, slot := 11, constantValue := 0 }, { name := "T_CHAR", type := .int, accessFlags := 25, slot := 12, constantValue := 0 }, { name := "T_FLOAT", type := .int, accessFlags := 25, slot := 13, constantValue := 0 }, { name := "T_DOUBLE", type := .int, accessFlags := 25, slot := 14, constantValue := 0 }, { name := "T_BYTE", type := .int, accessFlags := 25, slot := 15, constantValue := 0 }, { name := "T_SHORT", type := .int, accessFlags := 25, slot := 16, constantValue := 0 }, { name := "T_INT", type := .int, accessFlags := 25, slot := 17, constantValue := 0 }, { name := "T_LONG", type := .int, accessFlags := 25, slot := 18, constantValue := 0 }, { name := "JLA", type := (.object "jdk/internal/access/JavaLangAccess"), accessFlags := 26, slot := 19, constantValue := 0 }, { name := "SOFT_MAX_ARRAY_LENGTH", type := .int, accessFlags := 25, slot := 20, constantValue := 0 }]
  methods := #[k13m0]
  instanceTypes := #[]
  staticTypes := #[(.object "jdk/internal/misc/Unsafe"), .boolean, .int, .int, .int, .int, .int, .int, .int, .int, .int, .int, .int, .int, .int, .int, .int, .int, .int, (.object "jdk/internal/access/JavaLangAccess"), .int]
  resolved := Array.replicate 378 none
  statics := none }

def pool14 : Array CpInfo := pool [(1, u "java/lang/Cloneable"), (0, .class_ 1), (0, u "java/lang/Object"), (0, .class_ 3)] 3

/-- java/lang/Cloneable -/
def k14 : Class := { plain "java/lang/Cloneable" (some 0) with
  accessFlags := 1537
  interfaces := #[]
  cf := some (fileOf pool14 2 #[] #[] 1537 4 #[] #[])
  fields := #[]
  methods := #[]
  instanceTypes := #[]
  staticTypes := #[]
  resolved := Array.replicate 8 none
  statics := none }

/-- the primitive byte -/
def k15 : Class := { plain "byte" none with kind := .primitive 'B', accessFlags := 0x411 }
/-- [B -/
def k16 : Class := { plain "[B" (some 0) with kind := .array 15 .byte, interfaces := #[14, 4], accessFlags := 1041 }

/-- the primitive char -/
def k17 : Class := { plain "char" none with kind := .primitive 'C', accessFlags := 0x411 }
/-- [C -/
def k18 : Class := { plain "[C" (some 0) with kind := .array 17 .char, interfaces := #[14, 4], accessFlags := 1041 }

/-- the primitive int -/
def k19 : Class := { plain "int" none with kind := .primitive 'I', accessFlags := 0x411 }
/-- [I -/
def k20 : Class := { plain "[I" (some 0) with kind := .array 19 .int, interfaces := #[14, 4], accessFlags := 1041 }

def heap : Heap := #[{ cls := 9, slots := #[.long 0, .int 1, .null, .int 0, .null, .int 0, .int 0], vm := .statics 9 },
  { cls := 12, slots := #[.null, .null, .null], vm := .statics 12 }]
def classes : Array Class := #[k0, k1, k2, k3, k4, k5, k6, k7, k8, k9, k10, k11, k12, k13, k14, k15, k16, k17, k18, k19, k20]
def interned : List (Array UInt16 × Addr) := []
def slotsUsed : Nat := 10
def theMethod : MethodId := ⟨1, 1⟩
def args0 : Array Value := #[.long 10, .long 3, .long 1, .int 1, .long 4, .long 66]
def aboutOver (below : List Frame) : State where
  vm := { classes := classes, interned := interned.toArray }
  heap := heap
  slotsUsed := slotsUsed
  threads := #[{ frames := .invoking theMethod args0 :: below }]
def below0 : List Frame := [.native { method := ⟨0, 0⟩, args := #[] }]
def about1 : State := aboutOver below0
def p0 : Program := .bare "" "" ""
def e0 : Env := launch0.env 0 0 0
theorem w_frames : about1.frames = Frame.invoking theMethod args0 :: below0 := rfl
set_option maxRecDepth 65536 in
theorem w_args : argsFit about1.vm theMethod args0 = true := by decide +kernel
set_option maxRecDepth 65536 in
theorem w_heap : heapFits about1 = true := by decide +kernel
set_option maxRecDepth 65536 in
theorem w_runnable : about1.curStatus? = some .runnable := by decide +kernel
set_option maxRecDepth 65536 in
theorem w_alone : about1.alone = true := by decide +kernel
set_option maxRecDepth 65536 in
theorem w_named : about1.methodNamed? x = some theMethod := by decide +kernel
set_option maxRecDepth 65536 in
theorem w_hears : about1.hears theMethod below0 = true := by decide +kernel
set_option maxRecDepth 65536 in
theorem w_ripe : about1.ripe theMethod args0 below0 = true := by decide +kernel
theorem w_running : about1.status = .running := rfl
set_option maxRecDepth 65536 in
theorem w_room : about1.hasRoom e0.platform room_1 = true :=
  launch0.hasRoom_least _ room_1 (by decide +kernel) (by decide +kernel) (by decide +kernel) (by decide +kernel) (by decide +kernel) (by decide +kernel)
theorem allAtoms_all (ts : List Jvm.Cond) (a : Array Jvm.Value) (st : Jvm.State) : (allAtoms ts).before a st = ts.all (fun c => c.before a st) := by
  induction ts with
  | nil => rfl
  | cons c t ih =>
    show (Jvm.Cond.and c (allAtoms t)).before a st = _
    rw [Jvm.Cond.before_and, ih, List.all_cons]
def words1 : List Jvm.Cond := Jvm.Cond.code x code maxLocals ret :: tables_1
/-- a 'code' word, met by the world's own term for the bytes: nothing is compared byte by byte -/
theorem code_word {y : MethodName} {bytes : ByteArray} {mx : Nat} {rt : Option FieldType} {a : Array Value} {s : State} {m : MethodId} {meth : Method} {c : Code} (h1 : s.methodNamed? y = some m) (h2 : s.vm.method? m = some meth) (h3 : meth.code = some c) (h4 : c.code = bytes)
    (h5 : (c.maxLocals == mx && c.exceptionTable.isEmpty && decide (c.maxStack ≤ mostOperands) && decide (meth.sig.returnType = rt) && !meth.locks && decide (parseMethodDescriptor y.desc = some meth.sig)) = true) : (Jvm.Cond.code y bytes mx rt).before a s = true := by
  simp only [Bool.and_eq_true, beq_iff_eq, Bool.not_eq_true', decide_eq_true_eq] at h5
  obtain ⟨⟨⟨⟨⟨g1, g2⟩, g3⟩, g4⟩, g5⟩, g6⟩ := h5
  simp [Cond.before, Cond.holds, Cond.value, h1, h2, h3, h4, g1, g2, g3, g4, g5, g6]
def isCode : Jvm.Cond → Bool
  | .code _ _ _ _ => true
  | _ => false
theorem all_split {L : List Jvm.Cond} {P : Jvm.Cond → Bool} (h1 : L.all (fun c => isCode c || P c) = true) (h2 : ∀ c ∈ L.filter isCode, P c = true) : L.all P = true := by
  refine List.all_eq_true.mpr fun c hc => ?_
  have h := List.all_eq_true.mp h1 c hc
  rcases Bool.eq_false_or_eq_true (isCode c) with hi | hi
  · exact h2 c (List.mem_filter.mpr ⟨hc, hi⟩)
  · simpa [hi] using h
set_option maxRecDepth 65536 in
theorem w_c0 : (Jvm.Cond.code x code maxLocals ret).before args0 about1 = true := code_word (m := ⟨1, 1⟩) (meth := k1m1) (c := k1c1) (by decide +kernel) rfl rfl rfl (by decide +kernel)
set_option maxRecDepth 65536 in
theorem w_c1 : (Jvm.Cond.code ({ cls := "java/lang/String", name := "<init>", desc := "([C)V" } : Jvm.MethodName) jdk_42_method_3_code (2 : Nat) (Option.none : Option Jvm.ClassFile.FieldType)).before args0 about1 = true := code_word (m := ⟨9, 1⟩) (meth := k9m1) (c := k9c1) (by decide +kernel) rfl rfl rfl (by decide +kernel)
set_option maxRecDepth 65536 in
theorem w_c2 : (Jvm.Cond.code ({ cls := "java/lang/String", name := "<init>", desc := "([CIILjava/lang/Void;)V" } : Jvm.MethodName) jdk_42_method_149_code (6 : Nat) (Option.none : Option Jvm.ClassFile.FieldType)).before args0 about1 = true := code_word (m := ⟨9, 2⟩) (meth := k9m2) (c := k9c2) (by decide +kernel) rfl rfl rfl (by decide +kernel)
set_option maxRecDepth 65536 in
theorem w_c3 : (Jvm.Cond.code ({ cls := "java/lang/Object", name := "<init>", desc := "()V" } : Jvm.MethodName) object_method_1_code (1 : Nat) (Option.none : Option Jvm.ClassFile.FieldType)).before args0 about1 = true := code_word (m := ⟨0, 0⟩) (meth := k0m0) (c := k0c0) (by decide +kernel) rfl rfl rfl (by decide +kernel)
set_option maxRecDepth 65536 in
theorem w_c4 : (Jvm.Cond.code ({ cls := "java/lang/StringUTF16", name := "compress", desc := "([CII)[B" } : Jvm.MethodName) jdk_52_method_16_code (6 : Nat) (Option.some (Jvm.ClassFile.FieldType.array Jvm.ClassFile.FieldType.byte))).before args0 about1 = true := code_word (m := ⟨10, 2⟩) (meth := k10m2) (c := k10c2) (by decide +kernel) rfl rfl rfl (by decide +kernel)
set_option maxRecDepth 65536 in
theorem w_c5 : (Jvm.Cond.code ({ cls := "java/lang/StringUTF16", name := "compress", desc := "([CI[BII)I" } : Jvm.MethodName) jdk_52_method_21_code (7 : Nat) (Option.some Jvm.ClassFile.FieldType.int)).before args0 about1 = true := code_word (m := ⟨10, 3⟩) (meth := k10m3) (c := k10c3) (by decide +kernel) rfl rfl rfl (by decide +kernel)
set_option maxRecDepth 65536 in
theorem w_c6 : (Jvm.Cond.code ({ cls := "java/lang/StringUTF16", name := "coderFromArrayLen", desc := "([BI)B" } : Jvm.MethodName) jdk_52_method_15_code (2 : Nat) (Option.some Jvm.ClassFile.FieldType.byte)).before args0 about1 = true := code_word (m := ⟨10, 1⟩) (meth := k10m1) (c := k10c1) (by decide +kernel) rfl rfl rfl (by decide +kernel)
set_option maxRecDepth 65536 in
theorem w_c7 : (Jvm.Cond.code ({ cls := "com/example/strict_quota/strictquota/Audit", name := "<init>", desc := "(Ljava/lang/String;JJJJJJJJJJJJJJ)V" } : Jvm.MethodName) prog_2_method_1_code (30 : Nat) (Option.none : Option Jvm.ClassFile.FieldType)).before args0 about1 = true := code_word (m := ⟨3, 0⟩) (meth := k3m0) (c := k3c0) (by decide +kernel) rfl rfl rfl (by decide +kernel)
set_option maxRecDepth 65536 in
theorem w_c8 : (Jvm.Cond.code ({ cls := "java/lang/Record", name := "<init>", desc := "()V" } : Jvm.MethodName) jdk_30_method_1_code (1 : Nat) (Option.none : Option Jvm.ClassFile.FieldType)).before args0 about1 = true := code_word (m := ⟨2, 0⟩) (meth := k2m0) (c := k2c0) (by decide +kernel) rfl rfl rfl (by decide +kernel)
set_option maxRecDepth 65536 in
theorem w_c9 : (Jvm.Cond.code ({ cls := "com/example/strict_quota/strictquota/Audit", name := "promisesKept", desc := "()Z" } : Jvm.MethodName) prog_2_method_3_code (1 : Nat) (Option.some Jvm.ClassFile.FieldType.boolean)).before args0 about1 = true := code_word (m := ⟨3, 1⟩) (meth := k3m1) (c := k3c1) (by decide +kernel) rfl rfl rfl (by decide +kernel)
def codes1 : List Jvm.Cond := [Jvm.Cond.code x code maxLocals ret, Jvm.Cond.code ({ cls := "java/lang/String", name := "<init>", desc := "([C)V" } : Jvm.MethodName) jdk_42_method_3_code (2 : Nat) (Option.none : Option Jvm.ClassFile.FieldType), Jvm.Cond.code ({ cls := "java/lang/String", name := "<init>", desc := "([CIILjava/lang/Void;)V" } : Jvm.MethodName) jdk_42_method_149_code (6 : Nat) (Option.none : Option Jvm.ClassFile.FieldType), Jvm.Cond.code ({ cls := "java/lang/Object", name := "<init>", desc := "()V" } : Jvm.MethodName) object_method_1_code (1 : Nat) (Option.none : Option Jvm.ClassFile.FieldType), Jvm.Cond.code ({ cls := "java/lang/StringUTF16", name := "compress", desc := "([CII)[B" } : Jvm.MethodName) jdk_52_method_16_code (6 : Nat) (Option.some (Jvm.ClassFile.FieldType.array Jvm.ClassFile.FieldType.byte)), Jvm.Cond.code ({ cls := "java/lang/StringUTF16", name := "compress", desc := "([CI[BII)I" } : Jvm.MethodName) jdk_52_method_21_code (7 : Nat) (Option.some Jvm.ClassFile.FieldType.int), Jvm.Cond.code ({ cls := "java/lang/StringUTF16", name := "coderFromArrayLen", desc := "([BI)B" } : Jvm.MethodName) jdk_52_method_15_code (2 : Nat) (Option.some Jvm.ClassFile.FieldType.byte), Jvm.Cond.code ({ cls := "com/example/strict_quota/strictquota/Audit", name := "<init>", desc := "(Ljava/lang/String;JJJJJJJJJJJJJJ)V" } : Jvm.MethodName) prog_2_method_1_code (30 : Nat) (Option.none : Option Jvm.ClassFile.FieldType), Jvm.Cond.code ({ cls := "java/lang/Record", name := "<init>", desc := "()V" } : Jvm.MethodName) jdk_30_method_1_code (1 : Nat) (Option.none : Option Jvm.ClassFile.FieldType), Jvm.Cond.code ({ cls := "com/example/strict_quota/strictquota/Audit", name := "promisesKept", desc := "()Z" } : Jvm.MethodName) prog_2_method_3_code (1 : Nat) (Option.some Jvm.ClassFile.FieldType.boolean)]
set_option maxRecDepth 65536 in
theorem codes_eq : words1.filter isCode = codes1 := rfl
theorem w_codes : ∀ c ∈ words1.filter isCode, c.before args0 about1 = true := by
  rw [codes_eq]
  intro c hc
  simp only [codes1, List.mem_cons, List.not_mem_nil, or_false] at hc
  rcases hc with rfl | rfl | rfl | rfl | rfl | rfl | rfl | rfl | rfl | rfl
  · exact w_c0
  · exact w_c1
  · exact w_c2
  · exact w_c3
  · exact w_c4
  · exact w_c5
  · exact w_c6
  · exact w_c7
  · exact w_c8
  · exact w_c9
set_option maxRecDepth 65536 in
theorem w_t1 : (words1.take 24).all (fun c => isCode c || c.before args0 about1) = true := by decide +kernel
set_option maxRecDepth 65536 in
theorem w_t2 : ((words1.drop 24).take 24).all (fun c => isCode c || c.before args0 about1) = true := by decide +kernel
set_option maxRecDepth 65536 in
theorem w_t3 : (((words1.drop 24).drop 24).take 24).all (fun c => isCode c || c.before args0 about1) = true := by decide +kernel
set_option maxRecDepth 65536 in
theorem w_t4 : (((words1.drop 24).drop 24).drop 24).all (fun c => isCode c || c.before args0 about1) = true := by decide +kernel
theorem w_tables : (allAtoms (Jvm.Cond.code x code maxLocals ret :: tables_1)).before args0 about1 = true := by
  rw [allAtoms_all]
  show words1.all (fun c => c.before args0 about1) = true
  refine all_split ?_ w_codes
  rw [← List.take_append_drop 24 words1, List.all_append, w_t1, ← List.take_append_drop 24 (words1.drop 24), List.all_append, w_t2, ← List.take_append_drop 24 ((words1.drop 24).drop 24), List.all_append, w_t3, w_t4]
  rfl
set_option maxRecDepth 65536 in
theorem w_rest : rest_1_c.before args0 about1 = true := by decide +kernel
set_option maxRecDepth 65536 in
theorem w_case : (Jvm.Cond.and given_1 narrow_1).before args0 about1 = true := by decide +kernel
theorem w_applies : (headSpec (Jvm.Cond.code x code maxLocals ret :: tables_1) room_1).applies x e0.platform about1 = true :=
  (Spec.applies_iff w_frames).mpr ⟨w_running, w_runnable, w_alone, w_named, w_hears, w_ripe, w_room, w_tables⟩
theorem atStart : AtStart classFile x code maxLocals ret World_1 tables_1 room_1 Calls_1 rest_1 Pre_1 launch0 p0 e0 about1 theMethod args0 below0 :=
  ⟨lists_1, trivial, launch0.admits_env _ _ _, launch0.least_env, fairChoices_fair.cas, fairChoices_fair.clock, w_frames, w_args, w_heap, w_applies, trivial, w_rest, w_case⟩
end start1
theorem witness_1 : WitnessClaimed_1 := ⟨start1.p0, start1.e0, start1.about1, start1.theMethod, start1.args0, start1.below0, start1.atStart⟩
end Jvm.Pilot.@@N@@
