import JvmDerived
import JvmDerived.Pilot.@@N@@Statement
import JvmDerived.Pilot.@@N@@Code
set_option linter.unusedVariables false
set_option linter.unusedSimpArgs false
/- laws to paste: Road.backV (cut by pick.py; bodies as the Statement names them) -/
namespace Jvm.Pilot.@@N@@
namespace StrChars
open Jvm Sem ClassFile Op Lib Jvm.Stand Jvm.Free.XT Jvm.Free.ALB Jvm.Free.JM Jvm.Free
open Jvm.Lib.Cold (StaticIs)
/-- a char array whose places are chars -/
def Ch (a : Addr) (A : Cell) (U : State) : Prop := Arr .char a A U ∧ Typed .char A
theorem Ch.mv {a : Addr} {A : Cell} {U U' : State} (h : Ch a A U) (hal : U.vm.Alike U'.vm) (hh : U'.heap = U.heap) : Ch a A U' := ⟨h.1.mv hal hh, h.2⟩
theorem Ch.keep {a : Addr} {A : Cell} {U U' : State} (h : Ch a A U) (hal : U.vm.Alike U'.vm) (hk : U'.heap[a]? = some A) : Ch a A U' := ⟨h.1.keep hal hk, h.2⟩
/-- what place i of a char[]'s cell holds -/
def cv (A : Cell) (i : Nat) : Int32 := match A.slots[i]? with | some (.int x) => x | _ => 0
theorem Ch.get {a : Addr} {A : Cell} {U : State} (h : Ch a A U) {i : Nat} (hi : i < A.slots.size) : A.slots[i]? = some (.int (cv A i)) := by
  have e := Array.getElem?_eq_getElem hi
  have f := h.2 i _ e
  unfold cv; rw [e]
  generalize A.slots[i] = v at f
  cases v <;> simp [fits] at f ⊢
/-- the byte that i2b leaves of a char -/
def lo8 (x : Int32) : Int32 := x.toInt8.toInt32
theorem fits_lo8 (y : Int32) : fits .byte (.int (lo8 y)) = true := by
  have h1 := y.toInt8.le_toInt
  have h2 := y.toInt8.toInt_lt
  simp only [lo8, fits, Bool.and_eq_true, decide_eq_true_eq, Int32.le_iff_toInt_le, Int8.toInt_toInt32, show (-128 : Int32).toInt = -128 from by decide, show (127 : Int32).toInt = 127 from by decide]
  omega
/-- A' is A but that each place j of lo .. hi - 1 holds f j -/
def Laid (A A' : Cell) (lo hi : Nat) (f : Nat → Value) : Prop := A'.cls = A.cls ∧ A'.vm = A.vm ∧ A'.slots.size = A.slots.size ∧ ∀ i, A'.slots[i]? = if lo ≤ i ∧ i < hi then some (f i) else A.slots[i]?
theorem Laid.zero (A : Cell) (lo : Nat) (f : Nat → Value) : Laid A A lo (lo + 0) f := ⟨rfl, rfl, rfl, fun i => by rw [if_neg (by omega)]⟩
theorem Laid.step {A Ak : Cell} {lo k : Nat} {f : Nat → Value} {v : Value} (h : Laid A Ak lo k f) (hlo : lo ≤ k) (hk : k < Ak.slots.size) (hv : v = f k) : Laid A (Ak.setSlot k v) lo (k + 1) f := by
  refine ⟨h.1, h.2.1, by simpa [Cell.setSlot] using h.2.2.1, fun i => ?_⟩
  by_cases e : k = i
  · subst e; rw [Cell.slots_setSlot_self v hk, if_pos (by omega), hv]
  · rw [Cell.slots_setSlot_ne v e, h.2.2.2 i]
    by_cases q : lo ≤ i ∧ i < k
    · rw [if_pos q, if_pos (by omega)]
    · rw [if_neg q, if_neg (by omega)]
def U16 : String := "java/lang/StringUTF16"
namespace Cmp5
def yN : MethodName := ⟨"java/lang/StringUTF16", "compress", "([CI[BII)I"⟩
abbrev yB : ByteArray := jdk_52_method_21_code
theorem d0 : decode yB 0 = .ok (.iconst 0, 1) := by decide +kernel
theorem d1 : decode yB 1 = .ok (.istore 5, 2) := by decide +kernel
theorem d3 : decode yB 3 = .ok (.iload 5, 2) := by decide +kernel
theorem d5 : decode yB 5 = .ok (.iload 4, 2) := by decide +kernel
theorem d7 : decode yB 7 = .ok (.if_icmp (.ge) 37, 3) := by decide +kernel
theorem d10 : decode yB 10 = .ok (.aload_n 0, 1) := by decide +kernel
theorem d11 : decode yB 11 = .ok (.iload_n 1, 1) := by decide +kernel
theorem d12 : decode yB 12 = .ok (.caload, 1) := by decide +kernel
theorem d13 : decode yB 13 = .ok (.istore 6, 2) := by decide +kernel
theorem d15 : decode yB 15 = .ok (.iload 6, 2) := by decide +kernel
theorem d17 : decode yB 17 = .ok (.sipush 255, 3) := by decide +kernel
theorem d20 : decode yB 20 = .ok (.if_icmp (.le) 6, 3) := by decide +kernel
theorem d26 : decode yB 26 = .ok (.aload_n 2, 1) := by decide +kernel
theorem d27 : decode yB 27 = .ok (.iload_n 3, 1) := by decide +kernel
theorem d28 : decode yB 28 = .ok (.iload 6, 2) := by decide +kernel
theorem d30 : decode yB 30 = .ok (.i2b, 1) := by decide +kernel
theorem d31 : decode yB 31 = .ok (.bastore, 1) := by decide +kernel
theorem d32 : decode yB 32 = .ok (.iinc 1 1, 3) := by decide +kernel
theorem d35 : decode yB 35 = .ok (.iinc 3 1, 3) := by decide +kernel
theorem d38 : decode yB 38 = .ok (.iinc 5 1, 3) := by decide +kernel
theorem d41 : decode yB 41 = .ok (.goto (-38), 3) := by decide +kernel
theorem d44 : decode yB 44 = .ok (.iload 4, 2) := by decide +kernel
theorem d46 : decode yB 46 = .ok (.ireturn, 1) := by decide +kernel
def site : List Cond := []
def tab : Cond := tabOf yN yB 7 (some .int) site
def P (b : Addr) (A : Cell) (d : Addr) (B : Cell) (o q len : Nat) (args : Array Value) (s : State) : Prop := args = #[.ref b, .int (Int32.ofNat o), .ref d, .int (Int32.ofNat q), .int (Int32.ofNat len)] ∧ Ch b A s ∧ Arr .byte d B s ∧ b ≠ d ∧ o + len ≤ A.slots.size ∧ q + len ≤ B.slots.size ∧ ∀ i, i < len → ¬ 255 < cv A (o + i)
def E (b : Addr) (A : Cell) (d : Addr) (B : Cell) (o q len : Nat) (r : Option Value) (s u : State) : Prop := r = some (.int (Int32.ofNat len)) ∧ ∃ B', Put d B' s u ∧ Laid B B' q (q + len) (fun j => Value.int (lo8 (cv A (o + (j - q)))))
/-- no char of the range above 255: len; the places written hold each char's low byte -/
theorem law (l : Launch) (b : Addr) (A : Cell) (d : Addr) (B : Cell) (o q len : Nat) : Law l yN 5 5 0 0 yB 7 (some .int) site (P b A d B o q len) (E b A d B o q len) (copyLocs d q len) 0 0 := by
  refine Law.of_walk (plainFor_of_name (by decide +kernel)) (by decide +kernel) (by decide +kernel) (by decide) (fun _ _ h => by rw [h.1]; rfl) (fun _ U U' hal hh h => ⟨h.1, h.2.1.mv hal hh, h.2.2.1.mv hal hh, h.2.2.2⟩) (fun r U U' V V' h1 hal h2 h => ⟨h.1, h.2.elim fun B' q => ⟨B', q.1.mv h1 h2, q.2⟩⟩) ?_
  intro p e s m args below meth c s₁ X0 hexec hbytes hml hret hlk hnm hown hh0 W hP
  obtain ⟨rfl, hA, hB, hne, l1, l2, hp⟩ := hP
  have c1 : Steps p.tables e below (s₁.setTop (entryFrame m #[.ref b, .int (Int32.ofNat o), .ref d, .int (Int32.ofNat q), .int (Int32.ofNat len)] 7)) (s₁.setTop (mkF m 0 #[.val (.ref b), .val (.int (Int32.ofNat o)), .val (.ref d), .val (.int (Int32.ofNat q)), .val (.int (Int32.ofNat len)), .unset, .unset] [])) := entry rfl
  have hA0 := hA.1.mv X0.warmed.alike hh0
  have hB0 := hB.mv X0.warmed.alike hh0
  have a31 := hA.1.2.2.2
  have c2 : Steps p.tables e below (s₁.setTop (entryFrame m #[.ref b, .int (Int32.ofNat o), .ref d, .int (Int32.ofNat q), .int (Int32.ofNat len)] 7)) (s₁.setTop (mkF m 3 #[.val (.ref b), .val (.int (Int32.ofNat o)), .val (.ref d), .val (.int (Int32.ofNat q)), .val (.int (Int32.ofNat len)), .val (.int 0), .unset] [])) := c1.trans (by
    refine iconstV X0.here hexec rfl 0 (hb hbytes d0) (by decide) ?_
    refine XS.istore X0.here hexec rfl (hb hbytes d1) rfl rfl ?_
    exact Steps.refl _)
  have loop : ∀ (r i : Nat), i + r = len → ∀ (z : Slot), (z = .unset ∨ ∃ w, z = .val w ∧ w.category = 1) → ∀ (Tl : State) (Bk : Cell), Stand p l e { frames := 0, locals := 0, cells := 0, slots := 0 } s m #[.ref b, .int (Int32.ofNat o), .ref d, .int (Int32.ofNat q), .int (Int32.ofNat len)] below meth c Tl ([] ++ copyLocs d q i) 0 0 → Put d Bk s₁ Tl → Laid B Bk q (q + i) (fun j => Value.int (lo8 (cv A (o + (j - q))))) →
      Steps p.tables e below (s₁.setTop (entryFrame m #[.ref b, .int (Int32.ofNat o), .ref d, .int (Int32.ofNat q), .int (Int32.ofNat len)] 7)) (Tl.setTop (mkF m 3 #[.val (.ref b), .val (.int (Int32.ofNat (o + i))), .val (.ref d), .val (.int (Int32.ofNat (q + i))), .val (.int (Int32.ofNat len)), .val (.int (Int32.ofNat i)), z] [])) → ∃ (T' : State) (B' : Cell) (z' : Slot), Stand p l e { frames := 0, locals := 0, cells := 0, slots := 0 } s m #[.ref b, .int (Int32.ofNat o), .ref d, .int (Int32.ofNat q), .int (Int32.ofNat len)] below meth c T' ([] ++ copyLocs d q len) 0 0 ∧ Put d B' s₁ T' ∧ Laid B B' q (q + len) (fun j => Value.int (lo8 (cv A (o + (j - q))))) ∧
      Steps p.tables e below (s₁.setTop (entryFrame m #[.ref b, .int (Int32.ofNat o), .ref d, .int (Int32.ofNat q), .int (Int32.ofNat len)] 7)) (T'.setTop (mkF m 3 #[.val (.ref b), .val (.int (Int32.ofNat (o + len))), .val (.ref d), .val (.int (Int32.ofNat (q + len))), .val (.int (Int32.ofNat len)), .val (.int (Int32.ofNat len)), z'] [])) := by
    intro r
    induction r with
    | zero =>
      intro i hi z hz Tl Bk Xl pl fl cl
      have hil : i = len := by omega
      rw [hil] at Xl fl cl
      exact ⟨Tl, Bk, z, Xl, pl, fl, cl⟩
    | succ r ih =>
      intro i hi z hz Tl Bk Xl pl fl cl
      have all := X0.warmed.alike.symm.trans Xl.warmed.alike
      have hAl := hA0.keep all (pl.other hne hA0.1)
      have hBk := hB0.like all pl.1 fl.1 fl.2.1 fl.2.2.1
      have hlt : q + i < Bk.slots.size := by rw [fl.2.2.1]; omega
      have c3 : Steps p.tables e below (s₁.setTop (entryFrame m #[.ref b, .int (Int32.ofNat o), .ref d, .int (Int32.ofNat q), .int (Int32.ofNat len)] 7)) (Tl.setTop (mkF m 12 #[.val (.ref b), .val (.int (Int32.ofNat (o + i))), .val (.ref d), .val (.int (Int32.ofNat (q + i))), .val (.int (Int32.ofNat len)), .val (.int (Int32.ofNat i)), z] [.int (Int32.ofNat (o + i)), .ref b])) := cl.trans (by
        refine XS.iload Xl.here hexec rfl (hb hbytes d3) rfl ?_
        refine XS.iload Xl.here hexec rfl (hb hbytes d5) rfl ?_
        refine XS.icmpNo Xl.here hexec rfl (hb hbytes d7) rfl (ii_ge_f (lt32 (by omega) (by omega))) ?_
        refine XS.aloadN Xl.here hexec rfl (hb hbytes d10) rfl rfl ?_
        refine XS.iloadN Xl.here hexec rfl (hb hbytes d11) rfl ?_
        exact Steps.refl _)
      have c4 : Steps p.tables e below (s₁.setTop (entryFrame m #[.ref b, .int (Int32.ofNat o), .ref d, .int (Int32.ofNat q), .int (Int32.ofNat len)] 7)) (Tl.setTop (mkF m 13 #[.val (.ref b), .val (.int (Int32.ofNat (o + i))), .val (.ref d), .val (.int (Int32.ofNat (q + i))), .val (.int (Int32.ofNat len)), .val (.int (Int32.ofNat i)), z] [.int (cv A (o + i))])) := c3.trans (by
        refine Xl.aget hexec hAl rfl (hA.get (i := o + i) (by omega)) rfl rfl (hb hbytes d12) ?_
        exact Steps.refl _)
      have c5 : Steps p.tables e below (s₁.setTop (entryFrame m #[.ref b, .int (Int32.ofNat o), .ref d, .int (Int32.ofNat q), .int (Int32.ofNat len)] 7)) (Tl.setTop (mkF m 15 #[.val (.ref b), .val (.int (Int32.ofNat (o + i))), .val (.ref d), .val (.int (Int32.ofNat (q + i))), .val (.int (Int32.ofNat len)), .val (.int (Int32.ofNat i)), .val (.int (cv A (o + i)))] [])) := c4.trans (by
        refine XS.istoreS Xl.here hexec rfl (hb hbytes d13) rfl rfl hz ?_
        exact Steps.refl _)
      have c6 : Steps p.tables e below (s₁.setTop (entryFrame m #[.ref b, .int (Int32.ofNat o), .ref d, .int (Int32.ofNat q), .int (Int32.ofNat len)] 7)) (Tl.setTop (mkF m 31 #[.val (.ref b), .val (.int (Int32.ofNat (o + i))), .val (.ref d), .val (.int (Int32.ofNat (q + i))), .val (.int (Int32.ofNat len)), .val (.int (Int32.ofNat i)), .val (.int (cv A (o + i)))] [.int (lo8 (cv A (o + i))), .int (Int32.ofNat (q + i)), .ref d])) := c5.trans (by
        refine XS.iload Xl.here hexec rfl (hb hbytes d15) rfl ?_
        refine sipushV Xl.here hexec rfl 255 (hb hbytes d17) (by decide) ?_
        refine XS.icmpYes Xl.here hexec rfl (pc0 := 20) rfl (hb hbytes d20) rfl (ii_le_t (hp i (by omega))) (by decide) rfl ?_
        refine XS.aloadN Xl.here hexec rfl (hb hbytes d26) rfl rfl ?_
        refine XS.iloadN Xl.here hexec rfl (hb hbytes d27) rfl ?_
        refine XS.iload Xl.here hexec rfl (hb hbytes d28) rfl ?_
        refine i2b Xl.here hexec rfl (hb hbytes d30) rfl ?_
        exact Steps.refl _)
      obtain ⟨T7, X7, p7, st7⟩ := Xl.aput hexec hBk rfl hlt rfl (fits_lo8 (cv A (o + i))) (g := (mkF m 31 #[.val (.ref b), .val (.int (Int32.ofNat (o + i))), .val (.ref d), .val (.int (Int32.ofNat (q + i))), .val (.int (Int32.ofNat len)), .val (.int (Int32.ofNat i)), .val (.int (cv A (o + i)))] [.int (lo8 (cv A (o + i))), .int (Int32.ofNat (q + i)), .ref d])) rfl (rest := []) rfl (hb hbytes d31)
      have c8 : Steps p.tables e below (s₁.setTop (entryFrame m #[.ref b, .int (Int32.ofNat o), .ref d, .int (Int32.ofNat q), .int (Int32.ofNat len)] 7)) (T7.setTop (mkF m 32 #[.val (.ref b), .val (.int (Int32.ofNat (o + i))), .val (.ref d), .val (.int (Int32.ofNat (q + i))), .val (.int (Int32.ofNat len)), .val (.int (Int32.ofNat i)), .val (.int (cv A (o + i)))] [])) := c6.trans (st7 _ (Steps.refl _))
      have c9 : Steps p.tables e below (s₁.setTop (entryFrame m #[.ref b, .int (Int32.ofNat o), .ref d, .int (Int32.ofNat q), .int (Int32.ofNat len)] 7)) (T7.setTop (mkF m 3 #[.val (.ref b), .val (.int (Int32.ofNat (o + i) + 1)), .val (.ref d), .val (.int (Int32.ofNat (q + i) + 1)), .val (.int (Int32.ofNat len)), .val (.int (Int32.ofNat i + 1)), .val (.int (cv A (o + i)))] [])) := c8.trans (by
        refine iincV X7.here hexec rfl 1 (hb hbytes d32) (by decide) rfl rfl ?_
        refine iincV X7.here hexec rfl 1 (hb hbytes d35) (by decide) rfl rfl ?_
        refine iincV X7.here hexec rfl 1 (hb hbytes d38) (by decide) rfl rfl ?_
        refine XS.goto X7.here hexec rfl (pc0 := 41) rfl (hb hbytes d41) (by decide) rfl ?_
        exact Steps.refl _)
      have c10 : Steps p.tables e below (s₁.setTop (entryFrame m #[.ref b, .int (Int32.ofNat o), .ref d, .int (Int32.ofNat q), .int (Int32.ofNat len)] 7)) (T7.setTop (mkF m 3 #[.val (.ref b), .val (.int (Int32.ofNat (o + (i + 1)))), .val (.ref d), .val (.int (Int32.ofNat (q + (i + 1)))), .val (.int (Int32.ofNat len)), .val (.int (Int32.ofNat (i + 1))), .val (.int (cv A (o + i)))] [])) := by
        have := c9
        rw [succ32, succ32, succ32] at this
        exact this
      exact ih (i + 1) (by omega) _ (Or.inr ⟨_, rfl, rfl⟩) T7 _ (by rw [copyLocs_step, ← List.append_assoc]; exact X7) (pl.trans p7) (fl.step (by omega) hlt (by simp)) c10
  obtain ⟨T9, B9, z9, X9, p9, f9, g9⟩ := loop len 0 (by omega) .unset (Or.inl rfl) s₁ B (by simpa [copyLocs] using X0) ⟨hB0.1, fun _ _ => rfl, rfl⟩ (Laid.zero _ _ _) c2
  have c11 : Steps p.tables e below (s₁.setTop (entryFrame m #[.ref b, .int (Int32.ofNat o), .ref d, .int (Int32.ofNat q), .int (Int32.ofNat len)] 7)) (T9.setTop (mkF m 46 #[.val (.ref b), .val (.int (Int32.ofNat (o + len))), .val (.ref d), .val (.int (Int32.ofNat (q + len))), .val (.int (Int32.ofNat len)), .val (.int (Int32.ofNat len)), z9] [.int (Int32.ofNat len)])) := g9.trans (by
    refine XS.iload X9.here hexec rfl (hb hbytes d3) rfl ?_
    refine XS.iload X9.here hexec rfl (hb hbytes d5) rfl ?_
    refine XS.icmpYes X9.here hexec rfl (pc0 := 7) rfl (hb hbytes d7) rfl (ii_ge_t (nlt32 (by omega) (Nat.le_refl _))) (by decide) rfl ?_
    refine XS.iload X9.here hexec rfl (hb hbytes d44) rfl ?_
    exact Steps.refl _)
  exact ⟨T9, some (.int (Int32.ofNat len)), _, _, _, X9, by simp, rfl, rfl, (fun h => by cases h), ⟨rfl, B9, p9.from hh0, f9⟩, fun fs hl => c11.trans (X9.ireturnOut hexec hret rfl (Or.inl rfl) (hb hbytes d46) hl)⟩
end Cmp5
namespace Cmp3
def yN : MethodName := ⟨"java/lang/StringUTF16", "compress", "([CII)[B"⟩
abbrev yB : ByteArray := jdk_52_method_16_code
theorem d0 : decode yB 0 = .ok (.iload_n 2, 1) := by decide +kernel
theorem d1 : decode yB 1 = .ok (.newarray .byte, 2) := by decide +kernel
theorem d3 : decode yB 3 = .ok (.astore_n 3, 1) := by decide +kernel
theorem d4 : decode yB 4 = .ok (.aload_n 0, 1) := by decide +kernel
theorem d5 : decode yB 5 = .ok (.iload_n 1, 1) := by decide +kernel
theorem d6 : decode yB 6 = .ok (.aload_n 3, 1) := by decide +kernel
theorem d7 : decode yB 7 = .ok (.iconst 0, 1) := by decide +kernel
theorem d8 : decode yB 8 = .ok (.iload_n 2, 1) := by decide +kernel
theorem d9 : decode yB 9 = .ok (.invokestatic 115, 3) := by decide +kernel
theorem d12 : decode yB 12 = .ok (.istore 4, 2) := by decide +kernel
theorem d14 : decode yB 14 = .ok (.iload 4, 2) := by decide +kernel
theorem d16 : decode yB 16 = .ok (.iload_n 2, 1) := by decide +kernel
theorem d17 : decode yB 17 = .ok (.if_icmp (.eq) 40, 3) := by decide +kernel
theorem d57 : decode yB 57 = .ok (.aload_n 3, 1) := by decide +kernel
theorem d58 : decode yB 58 = .ok (.areturn, 1) := by decide +kernel
def site : List Cond := [.arrayClass .byte, Cmp5.tab] ++ staticW U16 115 Cmp5.yN
def tab : Cond := tabOf yN yB 6 (some (.array .byte)) site
def P (b : Addr) (A : Cell) (o len : Nat) (args : Array Value) (s : State) : Prop := args = #[.ref b, .int (Int32.ofNat o), .int (Int32.ofNat len)] ∧ Ch b A s ∧ o + len ≤ A.slots.size ∧ len ≤ 536870912 ∧ ∀ i, i < len → ¬ 255 < cv A (o + i)
def E (b : Addr) (A : Cell) (o len : Nat) (r : Option Value) (s u : State) : Prop := NewArr .byte "[B" len (fun j => .int (lo8 (cv A (o + j)))) r s u ∧ u.heap.size = s.heap.size + 1
/-- no char of the range above 255: a new byte[] of their low bytes -/
theorem law (l : Launch) (b : Addr) (A : Cell) (o len : Nat) : Law l yN 3 3 1 18 yB 6 (some (.array .byte)) site (P b A o len) (E b A o len) [] 1 len := by
  refine Law.of_walk (plainFor_of_name (by decide +kernel)) (by decide +kernel) (by decide +kernel) (by decide) (fun _ _ h => by rw [h.1]; rfl) (fun _ U U' hal hh h => ⟨h.1, h.2.1.mv hal hh, h.2.2⟩) (fun r U U' V V' h1 hal h2 h => ⟨NewArr.mv r U U' V V' h1 hal h2 h.1, by rw [h1, h2]; exact h.2⟩) ?_
  intro p e s m args below meth c s₁ X0 hexec hbytes hml hret hlk hnm hown hh0 W hP
  obtain ⟨rfl, hA, l1, l2, hp⟩ := hP
  have a31 := hA.1.2.2.2
  have c1 : Steps p.tables e below (s₁.setTop (entryFrame m #[.ref b, .int (Int32.ofNat o), .int (Int32.ofNat len)] 6)) (s₁.setTop (mkF m 0 #[.val (.ref b), .val (.int (Int32.ofNat o)), .val (.int (Int32.ofNat len)), .unset, .unset, .unset] [])) := entry rfl
  have c2 : Steps p.tables e below (s₁.setTop (entryFrame m #[.ref b, .int (Int32.ofNat o), .int (Int32.ofNat len)] 6)) (s₁.setTop (mkF m 1 #[.val (.ref b), .val (.int (Int32.ofNat o)), .val (.int (Int32.ofNat len)), .unset, .unset, .unset] [.int (Int32.ofNat len)])) := c1.trans (by
    refine XS.iloadN X0.here hexec rfl (hb hbytes d0) rfl ?_
    exact Steps.refl _)
  obtain ⟨T3, B3, X3, ba3, bs3, bv3, bh3, bf3, st3⟩ := X0.anew hexec (atype := .byte) (wk W (.arrayClass .byte)) rfl (by show len * 1 ≤ _; omega) (by omega) (g := (mkF m 1 #[.val (.ref b), .val (.int (Int32.ofNat o)), .val (.int (Int32.ofNat len)), .unset, .unset, .unset] [.int (Int32.ofNat len)])) rfl (hb hbytes d1) (rest := []) rfl (Nat.le_refl _) (by show 0 + len ≤ len; omega)
  rw [hh0] at ba3 st3
  have kp3 : XT.Kept s T3 := (XT.Kept.of_eq hh0).push bh3
  have hA3 := hA.keep X3.warmed.alike (kp3 _ _ hA.1.1)
  have hne : b ≠ s.heap.size := hA.1.ne
  have c4 : Steps p.tables e below (s₁.setTop (entryFrame m #[.ref b, .int (Int32.ofNat o), .int (Int32.ofNat len)] 6)) (T3.setTop (mkF m 3 #[.val (.ref b), .val (.int (Int32.ofNat o)), .val (.int (Int32.ofNat len)), .unset, .unset, .unset] [.ref s.heap.size])) := c2.trans (st3 _ (Steps.refl _))
  have c5 : Steps p.tables e below (s₁.setTop (entryFrame m #[.ref b, .int (Int32.ofNat o), .int (Int32.ofNat len)] 6)) (T3.setTop (mkF m 9 #[.val (.ref b), .val (.int (Int32.ofNat o)), .val (.int (Int32.ofNat len)), .val (.ref s.heap.size), .unset, .unset] [.int (Int32.ofNat len), .int 0, .ref s.heap.size, .int (Int32.ofNat o), .ref b])) := c4.trans (by
    refine XS.astoreN X3.here hexec rfl (hb hbytes d3) rfl rfl rfl ?_
    refine XS.aloadN X3.here hexec rfl (hb hbytes d4) rfl rfl ?_
    refine XS.iloadN X3.here hexec rfl (hb hbytes d5) rfl ?_
    refine XS.aloadN X3.here hexec rfl (hb hbytes d6) rfl rfl ?_
    refine iconstV X3.here hexec rfl 0 (hb hbytes d7) (by decide) ?_
    refine XS.iloadN X3.here hexec rfl (hb hbytes d8) rfl ?_
    exact Steps.refl _)
  obtain ⟨v6, T6, X6, E6, g6⟩ := X3.callS hexec (Cmp5.law l b A s.heap.size B3 o 0 len) hown (wks W (staticW U16 115 Cmp5.yN)) (wk W Cmp5.tab) (W := 0) (Nat.le_of_ble_eq_true rfl) (Nat.le_of_ble_eq_true rfl) (Nat.le_refl _) (by show 0 + len + 0 ≤ len; omega) (g := (mkF m 9 #[.val (.ref b), .val (.int (Int32.ofNat o)), .val (.int (Int32.ofNat len)), .val (.ref s.heap.size), .unset, .unset] [.int (Int32.ofNat len), .int (Int32.ofNat 0), .ref s.heap.size, .int (Int32.ofNat o), .ref b])) rfl (by rw [hml]; rfl) c5 (argsL := [.ref b, .int (Int32.ofNat o), .ref s.heap.size, .int (Int32.ofNat 0), .int (Int32.ofNat len)]) (rest := []) rfl rfl (by show 2 * 0 + 0 ≤ _; decide) (hb hbytes d9) (⟨rfl, hA3, ba3, hne, l1, by rw [bs3]; simp, hp⟩)
  obtain ⟨rfl, B6, p6, f6⟩ := E6
  have c7 : Steps p.tables e below (s₁.setTop (entryFrame m #[.ref b, .int (Int32.ofNat o), .int (Int32.ofNat len)] 6)) (T6.setTop (mkF m 12 #[.val (.ref b), .val (.int (Int32.ofNat o)), .val (.int (Int32.ofNat len)), .val (.ref s.heap.size), .unset, .unset] [.int (Int32.ofNat len)])) := g6
  have c8 : Steps p.tables e below (s₁.setTop (entryFrame m #[.ref b, .int (Int32.ofNat o), .int (Int32.ofNat len)] 6)) (T6.setTop (mkF m 58 #[.val (.ref b), .val (.int (Int32.ofNat o)), .val (.int (Int32.ofNat len)), .val (.ref s.heap.size), .val (.int (Int32.ofNat len)), .unset] [.ref s.heap.size])) := c7.trans (by
    refine XS.istore X6.here hexec rfl (hb hbytes d12) rfl rfl ?_
    refine XS.iload X6.here hexec rfl (hb hbytes d14) rfl ?_
    refine XS.iloadN X6.here hexec rfl (hb hbytes d16) rfl ?_
    refine XS.icmpYes X6.here hexec rfl (pc0 := 17) rfl (hb hbytes d17) rfl (ii_eq_t rfl) (by decide) rfl ?_
    refine XS.aloadN X6.here hexec rfl (hb hbytes d57) rfl rfl ?_
    exact Steps.refl _)
  have X8 := X6.wide (L' := []) (cells' := 1) (slots' := len) (fun x hx hlt => by
    simp only [List.nil_append, copyLocs, List.mem_map, List.mem_range] at hx
    obtain ⟨i, -, rfl⟩ := hx
    exact absurd hlt (Nat.lt_irrefl _)) (Nat.le_refl _) (by omega)
  exact ⟨T6, some (.ref s.heap.size), _, _, _, X8, rfl, rfl, rfl, (fun h => by cases h), ⟨⟨rfl, B6, ba3.like (X3.warmed.alike.symm.trans X6.warmed.alike) p6.1 f6.1 f6.2.1 f6.2.2.1, f6.2.1.trans bv3, by rw [X6.warmed.alike.findClass, f6.1]; exact bf3, by rw [f6.2.2.1, bs3]; simp, fun j hj => by rw [f6.2.2.2 j, if_pos (by omega)]; rfl, kp3.put p6 (Nat.le_refl _)⟩, by rw [p6.2.2, bh3, hh0]; simp⟩, fun fs hl => c8.trans (X8.areturnOut hexec rfl hret rfl (hb hbytes d58) hl)⟩
end Cmp3
namespace CodL
def yN : MethodName := ⟨"java/lang/StringUTF16", "coderFromArrayLen", "([BI)B"⟩
abbrev yB : ByteArray := jdk_52_method_15_code
theorem d0 : decode yB 0 = .ok (.iload_n 1, 1) := by decide +kernel
theorem d1 : decode yB 1 = .ok (.aload_n 0, 1) := by decide +kernel
theorem d2 : decode yB 2 = .ok (.arraylength, 1) := by decide +kernel
theorem d3 : decode yB 3 = .ok (.isub, 1) := by decide +kernel
theorem d4 : decode yB 4 = .ok (.bipush 31, 2) := by decide +kernel
theorem d6 : decode yB 6 = .ok (.iushr, 1) := by decide +kernel
theorem d7 : decode yB 7 = .ok (.i2b, 1) := by decide +kernel
theorem d8 : decode yB 8 = .ok (.ireturn, 1) := by decide +kernel
def site : List Cond := []
def tab : Cond := tabOf yN yB 2 (some .byte) site
def P (d : Addr) (B : Cell) (args : Array Value) (s : State) : Prop := args = #[.ref d, .int (Int32.ofNat B.slots.size)] ∧ Arr .byte d B s
def E (r : Option Value) (s u : State) : Prop := XT.PureE (some (.int 0)) r s u
/-- an array as long as the number of chars: LATIN1 -/
theorem law (l : Launch) (d : Addr) (B : Cell) : Law l yN 2 2 0 0 yB 2 (some .byte) site (P d B) E [] 0 0 := by
  refine Law.of_walk (plainFor_of_name (by decide +kernel)) (by decide +kernel) (by decide +kernel) (by decide) (fun _ _ h => by rw [h.1]; rfl) (fun _ U U' hal hh h => ⟨h.1, h.2.mv hal hh⟩) (fun r U U' V V' h1 hal h2 h => XT.PureE.mv r U U' V V' h1 hal h2 h) ?_
  intro p e s m args below meth c s₁ X0 hexec hbytes hml hret hlk hnm hown hh0 W hP
  obtain ⟨rfl, hB⟩ := hP
  have hB0 := hB.mv X0.warmed.alike hh0
  have c1 : Steps p.tables e below (s₁.setTop (entryFrame m #[.ref d, .int (Int32.ofNat B.slots.size)] 2)) (s₁.setTop (mkF m 0 #[.val (.ref d), .val (.int (Int32.ofNat B.slots.size))] [])) := entry rfl
  have c2 : Steps p.tables e below (s₁.setTop (entryFrame m #[.ref d, .int (Int32.ofNat B.slots.size)] 2)) (s₁.setTop (mkF m 2 #[.val (.ref d), .val (.int (Int32.ofNat B.slots.size))] [.ref d, .int (Int32.ofNat B.slots.size)])) := c1.trans (by
    refine XS.iloadN X0.here hexec rfl (hb hbytes d0) rfl ?_
    refine XS.aloadN X0.here hexec rfl (hb hbytes d1) rfl rfl ?_
    exact Steps.refl _)
  have c3 : Steps p.tables e below (s₁.setTop (entryFrame m #[.ref d, .int (Int32.ofNat B.slots.size)] 2)) (s₁.setTop (mkF m 8 #[.val (.ref d), .val (.int (Int32.ofNat B.slots.size))] [.int (lo8 (ushr (Int32.ofNat B.slots.size - Int32.ofNat B.slots.size) 31))])) := c2.trans (by
    refine X0.alen hexec hB0 rfl rfl (hb hbytes d2) ?_
    refine XS.isub X0.here hexec rfl (hb hbytes d3) rfl ?_
    refine bipushV X0.here hexec rfl 31 (hb hbytes d4) (by decide) ?_
    refine iushr X0.here hexec rfl (hb hbytes d6) rfl ?_
    refine i2b X0.here hexec rfl (hb hbytes d7) rfl ?_
    exact Steps.refl _)
  have e0 : lo8 (ushr (Int32.ofNat B.slots.size - Int32.ofNat B.slots.size) 31) = 0 := by rw [Int32.sub_self]; decide
  rw [e0] at c3
  exact ⟨s₁, some (.int 0), _, _, _, X0, rfl, rfl, rfl, (fun h => by cases h), ⟨rfl, hh0⟩, fun fs hl => c3.trans (X0.ireturnOut hexec hret rfl (Or.inr (Or.inr (Or.inl rfl))) (hb hbytes d8) hl)⟩
end CodL
/-- the String at a is Latin-1 over a new byte[] (the heap's one new cell): the low bytes of the len chars of A from o on; every cell but a is kept -/
def Got (a : Addr) (D : Cell) (fV fC : Field) (A : Cell) (o len : Nat) (r : Option Value) (s u : State) : Prop := r = none ∧ ∃ D' V : Cell, Blank "java/lang/String" a D' u ∧ Same D D' [fV.slot, fC.slot] ∧ D'.slots[fV.slot]? = some (.ref s.heap.size) ∧ D'.slots[fC.slot]? = some (.int 0) ∧ Arr .byte s.heap.size V u ∧ V.vm = .none ∧ u.vm.findClass "[B" = some V.cls ∧ V.slots.size = len ∧ (∀ j, j < len → V.slots[j]? = some (.int (lo8 (cv A (o + j))))) ∧ (∀ (y : Addr) (c : Cell), y ≠ a → s.heap[y]? = some c → u.heap[y]? = some c) ∧ u.heap.size = s.heap.size + 1
theorem Got.mv {a : Addr} {D A : Cell} {fV fC : Field} {o len : Nat} : ∀ r (U U' V V' : State), U'.heap = U.heap → V.vm.Alike V'.vm → V'.heap = V.heap → Got a D fV fC A o len r U V → Got a D fV fC A o len r U' V' :=
  fun r U U' V V' h1 hal h2 ⟨e0, D', X, a1, a2, a3, a4, a5, a6, a7, a8, a9, a10, a11⟩ => ⟨e0, D', X, a1.mv hal h2, a2, by rw [h1]; exact a3, a4, by rw [h1]; exact a5.mv hal h2, a6, by rw [hal.findClass]; exact a7, a8, a9, by rw [h1, h2]; exact a10, by rw [h1, h2]; exact a11⟩
namespace New4
def yN : MethodName := ⟨"java/lang/String", "<init>", "([CIILjava/lang/Void;)V"⟩
abbrev yB : ByteArray := jdk_42_method_149_code
theorem d0 : decode yB 0 = .ok (.aload_n 0, 1) := by decide +kernel
theorem d1 : decode yB 1 = .ok (.invokespecial 1, 3) := by decide +kernel
theorem d4 : decode yB 4 = .ok (.iload_n 3, 1) := by decide +kernel
theorem d5 : decode yB 5 = .ok (.ifCond (.ne) 22, 3) := by decide +kernel
theorem d27 : decode yB 27 = .ok (.getstatic 38, 3) := by decide +kernel
theorem d30 : decode yB 30 = .ok (.ifCond (.eq) 28, 3) := by decide +kernel
theorem d33 : decode yB 33 = .ok (.aload_n 1, 1) := by decide +kernel
theorem d34 : decode yB 34 = .ok (.iload_n 2, 1) := by decide +kernel
theorem d35 : decode yB 35 = .ok (.iload_n 3, 1) := by decide +kernel
theorem d36 : decode yB 36 = .ok (.invokestatic 177, 3) := by decide +kernel
theorem d39 : decode yB 39 = .ok (.astore 5, 2) := by decide +kernel
theorem d41 : decode yB 41 = .ok (.aload_n 0, 1) := by decide +kernel
theorem d42 : decode yB 42 = .ok (.aload 5, 2) := by decide +kernel
theorem d44 : decode yB 44 = .ok (.iload_n 3, 1) := by decide +kernel
theorem d45 : decode yB 45 = .ok (.invokestatic 47, 3) := by decide +kernel
theorem d48 : decode yB 48 = .ok (.putfield 15, 3) := by decide +kernel
theorem d51 : decode yB 51 = .ok (.aload_n 0, 1) := by decide +kernel
theorem d52 : decode yB 52 = .ok (.aload 5, 2) := by decide +kernel
theorem d54 : decode yB 54 = .ok (.putfield 9, 3) := by decide +kernel
theorem d57 : decode yB 57 = .ok (.return_, 1) := by decide +kernel
def site : List Cond := [.fieldLink "java/lang/String" 38 "java/lang/String" "COMPACT_STRINGS" "Z", Cmp3.tab, CodL.tab, .laysFinal "java/lang/String" "java/lang/String" "value" "[B", .fieldLink "java/lang/String" 9 "java/lang/String" "value" "[B", .laysFinal "java/lang/String" "java/lang/String" "coder" "B", .fieldLink "java/lang/String" 15 "java/lang/String" "coder" "B"] ++ objW "java/lang/String" 1 ++ staticW "java/lang/String" 177 Cmp3.yN ++ staticW "java/lang/String" 47 CodL.yN
def tab : Cond := tabOf yN yB 6 none site
def P (a : Addr) (D : Cell) (fV fC : Field) (b : Addr) (A : Cell) (z : Int32) (o len : Nat) (args : Array Value) (s : State) : Prop := args = #[.ref a, .ref b, .int (Int32.ofNat o), .int (Int32.ofNat len), .null] ∧ Blank "java/lang/String" a D s ∧ Found "java/lang/String" "value" "[B" fV s ∧ Found "java/lang/String" "coder" "B" fC s ∧ Ch b A s ∧ StaticIs s "java/lang/String" "COMPACT_STRINGS" "Z" (.int z) ∧ ¬ z = 0 ∧ 0 < len ∧ o + len ≤ A.slots.size ∧ len ≤ 536870912 ∧ ∀ i, i < len → ¬ 255 < cv A (o + i)
def E (a : Addr) (D : Cell) (fV fC : Field) (A : Cell) (o len : Nat) (r : Option Value) (s u : State) : Prop := Got a D fV fC A o len r s u
/-- len > 0, no char of the range above 255: a Latin-1 String of their low bytes -/
theorem law (l : Launch) (a : Addr) (D : Cell) (fV fC : Field) (b : Addr) (A : Cell) (z : Int32) (o len : Nat) : Law l yN 5 4 2 35 yB 6 none site (P a D fV fC b A z o len) (E a D fV fC A o len) [⟨a, fC.slot⟩, ⟨a, fV.slot⟩] 1 len := by
  refine Law.of_walk (plainFor_of_name (by decide +kernel)) (by decide +kernel) (by decide +kernel) (by decide) (fun _ _ h => by rw [h.1]; rfl) (fun _ U U' hal hh h => ⟨h.1, h.2.1.mv hal hh, h.2.2.1.al hal, h.2.2.2.1.al hal, h.2.2.2.2.1.mv hal hh, h.2.2.2.2.2.1.there hal hh, h.2.2.2.2.2.2⟩) (fun r U U' V V' h1 hal h2 h => Got.mv r U U' V V' h1 hal h2 h) ?_
  intro p e s m args below meth c s₁ X0 hexec hbytes hml hret hlk hnm hown hh0 W hP
  obtain ⟨rfl, hB, f1, f2, hA, s1, hz, l0, l1, l2, hp⟩ := hP
  have a31 := hA.1.2.2.2
  have c1 : Steps p.tables e below (s₁.setTop (entryFrame m #[.ref a, .ref b, .int (Int32.ofNat o), .int (Int32.ofNat len), .null] 6)) (s₁.setTop (mkF m 0 #[.val (.ref a), .val (.ref b), .val (.int (Int32.ofNat o)), .val (.int (Int32.ofNat len)), .val .null, .unset] [])) := entry rfl
  have c2 : Steps p.tables e below (s₁.setTop (entryFrame m #[.ref a, .ref b, .int (Int32.ofNat o), .int (Int32.ofNat len), .null] 6)) (s₁.setTop (mkF m 1 #[.val (.ref a), .val (.ref b), .val (.int (Int32.ofNat o)), .val (.int (Int32.ofNat len)), .val .null, .unset] [.ref a])) := c1.trans (by
    refine XS.aloadN X0.here hexec rfl (hb hbytes d0) rfl rfl ?_
    exact Steps.refl _)
  obtain ⟨T3, X3, q3, st3⟩ := X0.oinit hexec hown (wks W (objW "java/lang/String" 1)) (g := (mkF m 1 #[.val (.ref a), .val (.ref b), .val (.int (Int32.ofNat o)), .val (.int (Int32.ofNat len)), .val .null, .unset] [.ref a])) rfl (by rw [hml]; rfl) (rest := []) rfl (hb hbytes d1) (W := 0) (by show 2 * 0 + 0 ≤ _; decide) (Nat.le_of_ble_eq_true rfl) (Nat.le_of_ble_eq_true rfl)
  have hh3 := q3.trans hh0
  have c4 : Steps p.tables e below (s₁.setTop (entryFrame m #[.ref a, .ref b, .int (Int32.ofNat o), .int (Int32.ofNat len), .null] 6)) (T3.setTop (mkF m 27 #[.val (.ref a), .val (.ref b), .val (.int (Int32.ofNat o)), .val (.int (Int32.ofNat len)), .val .null, .unset] [])) := (c2.trans (st3 _ (Steps.refl _))).trans (by
    refine XS.iloadN X3.here hexec rfl (hb hbytes d4) rfl ?_
    refine XS.ifYes X3.here hexec rfl (pc0 := 5) rfl (hb hbytes d5) rfl (i0_ne_t (nz32 (by omega) l0)) (by decide) rfl ?_
    exact Steps.refl _)
  obtain ⟨T5, X5, q5, st5⟩ := X3.sget hexec hown (wk W (.fieldLink "java/lang/String" 38 "java/lang/String" "COMPACT_STRINGS" "Z")) s1 (fun _ _ h => by rw [hh3]; exact h) (g := (mkF m 27 #[.val (.ref a), .val (.ref b), .val (.int (Int32.ofNat o)), .val (.int (Int32.ofNat len)), .val .null, .unset] [])) rfl (hb hbytes d27)
  have hh5 := q5.trans hh3
  have c6 : Steps p.tables e below (s₁.setTop (entryFrame m #[.ref a, .ref b, .int (Int32.ofNat o), .int (Int32.ofNat len), .null] 6)) (T5.setTop (mkF m 30 #[.val (.ref a), .val (.ref b), .val (.int (Int32.ofNat o)), .val (.int (Int32.ofNat len)), .val .null, .unset] [.int z])) := c4.trans (st5 _ (Steps.refl _))
  have c7 : Steps p.tables e below (s₁.setTop (entryFrame m #[.ref a, .ref b, .int (Int32.ofNat o), .int (Int32.ofNat len), .null] 6)) (T5.setTop (mkF m 36 #[.val (.ref a), .val (.ref b), .val (.int (Int32.ofNat o)), .val (.int (Int32.ofNat len)), .val .null, .unset] [.int (Int32.ofNat len), .int (Int32.ofNat o), .ref b])) := c6.trans (by
    refine XS.ifNo X5.here hexec rfl (hb hbytes d30) rfl (i0_eq_f hz) ?_
    refine XS.aloadN X5.here hexec rfl (hb hbytes d33) rfl rfl ?_
    refine XS.iloadN X5.here hexec rfl (hb hbytes d34) rfl ?_
    refine XS.iloadN X5.here hexec rfl (hb hbytes d35) rfl ?_
    exact Steps.refl _)
  obtain ⟨v8, T8, X8, E8, g8⟩ := X5.callS hexec (Cmp3.law l b A o len) hown (wks W (staticW "java/lang/String" 177 Cmp3.yN)) (wk W Cmp3.tab) (W := 0) (Nat.le_of_ble_eq_true rfl) (Nat.le_of_ble_eq_true rfl) (Nat.le_refl _) (by show 0 + len ≤ len; omega) (g := (mkF m 36 #[.val (.ref a), .val (.ref b), .val (.int (Int32.ofNat o)), .val (.int (Int32.ofNat len)), .val .null, .unset] [.int (Int32.ofNat len), .int (Int32.ofNat o), .ref b])) rfl (by rw [hml]; rfl) c7 (argsL := [.ref b, .int (Int32.ofNat o), .int (Int32.ofNat len)]) (rest := []) rfl rfl (by show 2 * 0 + 0 ≤ _; decide) (hb hbytes d36) (⟨rfl, hA.mv X5.warmed.alike hh5, l1, l2, hp⟩)
  obtain ⟨e8, z8⟩ := E8
  obtain ⟨rfl, N, n1, n2, n3, n4, n5, n6⟩ := NewArr.mv _ T5 s _ _ hh5.symm (Vm.Alike.refl _) rfl e8
  rw [hh5] at z8
  have hB1 := hB.keep X8.warmed.alike (n6 _ _ hB.1)
  have hne : s.heap.size ≠ a := (Nat.ne_of_lt (Array.getElem?_eq_some_iff.mp hB.1).1).symm
  have c9 : Steps p.tables e below (s₁.setTop (entryFrame m #[.ref a, .ref b, .int (Int32.ofNat o), .int (Int32.ofNat len), .null] 6)) (T8.setTop (mkF m 39 #[.val (.ref a), .val (.ref b), .val (.int (Int32.ofNat o)), .val (.int (Int32.ofNat len)), .val .null, .unset] [.ref s.heap.size])) := g8
  have c10 : Steps p.tables e below (s₁.setTop (entryFrame m #[.ref a, .ref b, .int (Int32.ofNat o), .int (Int32.ofNat len), .null] 6)) (T8.setTop (mkF m 45 #[.val (.ref a), .val (.ref b), .val (.int (Int32.ofNat o)), .val (.int (Int32.ofNat len)), .val .null, .val (.ref s.heap.size)] [.int (Int32.ofNat N.slots.size), .ref s.heap.size, .ref a])) := by
    have hc : Steps p.tables e below (s₁.setTop (entryFrame m #[.ref a, .ref b, .int (Int32.ofNat o), .int (Int32.ofNat len), .null] 6)) (T8.setTop (mkF m 45 #[.val (.ref a), .val (.ref b), .val (.int (Int32.ofNat o)), .val (.int (Int32.ofNat len)), .val .null, .val (.ref s.heap.size)] [.int (Int32.ofNat len), .ref s.heap.size, .ref a])) := c9.trans (by
      refine XS.astore X8.here hexec rfl (hb hbytes d39) rfl rfl rfl ?_
      refine XS.aloadN X8.here hexec rfl (hb hbytes d41) rfl rfl ?_
      refine XS.aload X8.here hexec rfl (hb hbytes d42) rfl rfl ?_
      refine XS.iloadN X8.here hexec rfl (hb hbytes d44) rfl ?_
      exact Steps.refl _)
    rw [n4]; exact hc
  obtain ⟨v11, T11, X11, E11, g11⟩ := X8.callS hexec (CodL.law l s.heap.size N) hown (wks W (staticW "java/lang/String" 47 CodL.yN)) (wk W CodL.tab) (W := 1) (Nat.le_of_ble_eq_true rfl) (Nat.le_of_ble_eq_true rfl) (Nat.le_refl _) (by show 0 + len + 0 ≤ len; omega) (g := (mkF m 45 #[.val (.ref a), .val (.ref b), .val (.int (Int32.ofNat o)), .val (.int (Int32.ofNat len)), .val .null, .val (.ref s.heap.size)] [.int (Int32.ofNat N.slots.size), .ref s.heap.size, .ref a])) rfl (by rw [hml]; rfl) c10 (argsL := [.ref s.heap.size, .int (Int32.ofNat N.slots.size)]) (rest := [.ref a]) rfl rfl (by show 2 * 0 + (1 + 0) ≤ _; decide) (hb hbytes d45) (⟨rfl, n1⟩)
  obtain ⟨rfl, q11⟩ := E11
  have hB11 := hB1.mv (X8.warmed.alike.symm.trans X11.warmed.alike) q11
  have c12 : Steps p.tables e below (s₁.setTop (entryFrame m #[.ref a, .ref b, .int (Int32.ofNat o), .int (Int32.ofNat len), .null] 6)) (T11.setTop (mkF m 48 #[.val (.ref a), .val (.ref b), .val (.int (Int32.ofNat o)), .val (.int (Int32.ofNat len)), .val .null, .val (.ref s.heap.size)] [.int 0, .ref a])) := g11
  obtain ⟨T13, X13, p13, bl13, sl13, st13⟩ := X11.finit hexec hown (wk W (.fieldLink "java/lang/String" 15 "java/lang/String" "coder" "B")) (Or.inr ⟨_, (wk W (.laysFinal "java/lang/String" "java/lang/String" "coder" "B"))⟩) (Or.inl ⟨rfl, hnm⟩) f2 (Or.inl rfl) hB11 (t := .byte) (by decide +kernel) rfl (g := (mkF m 48 #[.val (.ref a), .val (.ref b), .val (.int (Int32.ofNat o)), .val (.int (Int32.ofNat len)), .val .null, .val (.ref s.heap.size)] [.int 0, .ref a])) rfl (rest := []) rfl (hb hbytes d48)
  have c14 : Steps p.tables e below (s₁.setTop (entryFrame m #[.ref a, .ref b, .int (Int32.ofNat o), .int (Int32.ofNat len), .null] 6)) (T13.setTop (mkF m 54 #[.val (.ref a), .val (.ref b), .val (.int (Int32.ofNat o)), .val (.int (Int32.ofNat len)), .val .null, .val (.ref s.heap.size)] [.ref s.heap.size, .ref a])) := (c12.trans (st13 _ (Steps.refl _))).trans (by
    refine XS.aloadN X13.here hexec rfl (hb hbytes d51) rfl rfl ?_
    refine XS.aload X13.here hexec rfl (hb hbytes d52) rfl rfl ?_
    exact Steps.refl _)
  obtain ⟨T15, X15, p15, bl15, sl15, st15⟩ := X13.finit hexec hown (wk W (.fieldLink "java/lang/String" 9 "java/lang/String" "value" "[B")) (Or.inr ⟨_, (wk W (.laysFinal "java/lang/String" "java/lang/String" "value" "[B"))⟩) (Or.inl ⟨rfl, hnm⟩) f1 (Or.inl rfl) bl13 (t := (.array .byte)) (by decide +kernel) rfl (g := (mkF m 54 #[.val (.ref a), .val (.ref b), .val (.int (Int32.ofNat o)), .val (.int (Int32.ofNat len)), .val .null, .val (.ref s.heap.size)] [.ref s.heap.size, .ref a])) rfl (rest := []) rfl (hb hbytes d54)
  have c16 : Steps p.tables e below (s₁.setTop (entryFrame m #[.ref a, .ref b, .int (Int32.ofNat o), .int (Int32.ofNat len), .null] 6)) (T15.setTop (mkF m 57 #[.val (.ref a), .val (.ref b), .val (.int (Int32.ofNat o)), .val (.int (Int32.ofNat len)), .val .null, .val (.ref s.heap.size)] [])) := c14.trans (st15 _ (Steps.refl _))
  have ap := apart (Or.inr ⟨_, (wk W (.laysFinal "java/lang/String" "java/lang/String" "value" "[B"))⟩) (Or.inr ⟨_, (wk W (.laysFinal "java/lang/String" "java/lang/String" "coder" "B"))⟩) f1 f2 (t₁ := .array .byte) (t₂ := .byte) (by decide +kernel) (by decide +kernel) (by decide)
  have al := X8.warmed.alike.symm.trans X15.warmed.alike
  have n7 : T11.heap[s.heap.size]? = some N := by rw [q11]; exact n1.1
  exact ⟨T15, none, _, _, _, X15, by simp, rfl, by omega, (fun _ => rfl), ⟨rfl, _, N, bl15, ((Same.refl D _).set _ (by simp)).set _ (by simp), sl15, (Cell.slots_setSlot_ne _ ap).trans sl13, n1.keep al (p15.other hne (p13.other hne n7)), n2, by rw [al.findClass]; exact n3, n4, n5, fun y c h1 h2 => p15.other h1 (p13.other h1 (by rw [q11]; exact n6 y c h2)), by rw [p15.2.2, p13.2.2, q11]; exact z8⟩, fun fs hl => c16.trans (X15.returnOut hexec hret (hb hbytes d57) hl)⟩
end New4
namespace New1
def yN : MethodName := ⟨"java/lang/String", "<init>", "([C)V"⟩
abbrev yB : ByteArray := jdk_42_method_3_code
theorem d0 : decode yB 0 = .ok (.aload_n 0, 1) := by decide +kernel
theorem d1 : decode yB 1 = .ok (.aload_n 1, 1) := by decide +kernel
theorem d2 : decode yB 2 = .ok (.iconst 0, 1) := by decide +kernel
theorem d3 : decode yB 3 = .ok (.aload_n 1, 1) := by decide +kernel
theorem d4 : decode yB 4 = .ok (.arraylength, 1) := by decide +kernel
theorem d5 : decode yB 5 = .ok (.aconst_null, 1) := by decide +kernel
theorem d6 : decode yB 6 = .ok (.invokespecial 27, 3) := by decide +kernel
theorem d9 : decode yB 9 = .ok (.return_, 1) := by decide +kernel
def site : List Cond := [New4.tab] ++ initW "java/lang/String" 27 New4.yN
def tab : Cond := tabOf yN yB 2 none site
def P (a : Addr) (D : Cell) (fV fC : Field) (b : Addr) (A : Cell) (z : Int32) (args : Array Value) (s : State) : Prop := args = #[.ref a, .ref b] ∧ Blank "java/lang/String" a D s ∧ Found "java/lang/String" "value" "[B" fV s ∧ Found "java/lang/String" "coder" "B" fC s ∧ Ch b A s ∧ StaticIs s "java/lang/String" "COMPACT_STRINGS" "Z" (.int z) ∧ ¬ z = 0 ∧ 0 < A.slots.size ∧ A.slots.size ≤ 536870912 ∧ ∀ i, i < A.slots.size → ¬ 255 < cv A i
def E (a : Addr) (D : Cell) (fV fC : Field) (A : Cell) (r : Option Value) (s u : State) : Prop := Got a D fV fC A 0 A.slots.size r s u
/-- new String(chars), not empty, no char above 255: a Latin-1 String of their low bytes -/
theorem law (l : Launch) (a : Addr) (D : Cell) (fV fC : Field) (b : Addr) (A : Cell) (z : Int32) : Law l yN 2 1 3 52 yB 2 none site (P a D fV fC b A z) (E a D fV fC A) [⟨a, fC.slot⟩, ⟨a, fV.slot⟩] 1 A.slots.size := by
  refine Law.of_walk (plainFor_of_name (by decide +kernel)) (by decide +kernel) (by decide +kernel) (by decide) (fun _ _ h => by rw [h.1]; rfl) (fun _ U U' hal hh h => ⟨h.1, h.2.1.mv hal hh, h.2.2.1.al hal, h.2.2.2.1.al hal, h.2.2.2.2.1.mv hal hh, h.2.2.2.2.2.1.there hal hh, h.2.2.2.2.2.2⟩) (fun r U U' V V' h1 hal h2 h => Got.mv r U U' V V' h1 hal h2 h) ?_
  intro p e s m args below meth c s₁ X0 hexec hbytes hml hret hlk hnm hown hh0 W hP
  obtain ⟨rfl, hB, f1, f2, hA, s1, hz, l0, l2, hp⟩ := hP
  have c1 : Steps p.tables e below (s₁.setTop (entryFrame m #[.ref a, .ref b] 2)) (s₁.setTop (mkF m 0 #[.val (.ref a), .val (.ref b)] [])) := entry rfl
  have c2 : Steps p.tables e below (s₁.setTop (entryFrame m #[.ref a, .ref b] 2)) (s₁.setTop (mkF m 6 #[.val (.ref a), .val (.ref b)] [.null, .int (Int32.ofNat A.slots.size), .int 0, .ref b, .ref a])) := c1.trans (by
    refine XS.aloadN X0.here hexec rfl (hb hbytes d0) rfl rfl ?_
    refine XS.aloadN X0.here hexec rfl (hb hbytes d1) rfl rfl ?_
    refine iconstV X0.here hexec rfl 0 (hb hbytes d2) (by decide) ?_
    refine XS.aloadN X0.here hexec rfl (hb hbytes d3) rfl rfl ?_
    refine X0.alen hexec (hA.1.mv X0.warmed.alike hh0) rfl rfl (hb hbytes d4) ?_
    refine XS.aconstNull X0.here hexec rfl (hb hbytes d5) ?_
    exact Steps.refl _)
  obtain ⟨v3, T3, X3, E3, g3⟩ := X0.callN hexec (New4.law l a D fV fC b A z 0 A.slots.size) rfl hown (wks W (initW "java/lang/String" 27 New4.yN)) (W New4.tab (by simp only [site, List.mem_cons, List.mem_append, true_or, or_true])) (W := 0) (Nat.le_of_ble_eq_true rfl) (Nat.le_of_ble_eq_true rfl) (Nat.le_refl _) (by show 0 + A.slots.size ≤ A.slots.size; omega) (g := (mkF m 6 #[.val (.ref a), .val (.ref b)] [.null, .int (Int32.ofNat A.slots.size), .int (Int32.ofNat 0), .ref b, .ref a])) rfl (by rw [hml]; rfl) c2 (argsL := [.ref b, .int (Int32.ofNat 0), .int (Int32.ofNat A.slots.size), .null]) (rest := []) rfl rfl (by show 2 * 0 + 0 ≤ _; decide) (hb hbytes d6) (⟨rfl, hB.mv X0.warmed.alike hh0, f1.al X0.warmed.alike, f2.al X0.warmed.alike, hA.mv X0.warmed.alike hh0, s1.there X0.warmed.alike hh0, hz, l0, by omega, l2, fun i hi => by rw [Nat.zero_add]; exact hp i hi⟩)
  have e0 := Got.mv _ s₁ s _ _ hh0.symm (Vm.Alike.refl _) rfl E3
  obtain rfl := e0.1
  have c4 : Steps p.tables e below (s₁.setTop (entryFrame m #[.ref a, .ref b] 2)) (T3.setTop (mkF m 9 #[.val (.ref a), .val (.ref b)] [])) := g3
  exact ⟨T3, none, _, _, _, X3, by simp, rfl, by omega, (fun _ => rfl), e0, fun fs hl => c4.trans (X3.returnOut hexec hret (hb hbytes d9) hl)⟩
theorem pays {l : Launch} {R : Room} {p : Program} {e : Env} {below : List Frame} {s : State} {sargs : Array Value} {len W : Nat} (a : Addr) (D : Cell) (fV fC : Field) (b : Addr) (A : Cell) (z : Int32) (htab : tab.before sargs s = true) (hfr : 4 ≤ R.frames) (hlo : W + 65 ≤ R.locals) :
    Back l R p e below s sargs yN len W (fun A₁ a₁ => A₁.cells + 1 ≤ R.cells ∧ A₁.slots + A.slots.size ≤ R.slots ∧ P a D fV fC b A z a₁ A₁.U) (fun A₁ _ v₁ B₁ => E a D fV fC A v₁ A₁.U B₁.U ∧ B₁.locs = A₁.locs ++ [⟨a, fC.slot⟩, ⟨a, fV.slot⟩] ∧ B₁.cells = A₁.cells + 1 ∧ B₁.slots = A₁.slots + A.slots.size) :=
  (law l a D fV fC b A z).pays htab hfr (by omega)
end New1
end StrChars
namespace StrChars.Road
open Jvm Sem ClassFile Op Lib Jvm.Stand Jvm.Free Jvm.Free.XT
open Jvm.Lib.Cold (StaticIs)
abbrev ST : String := "java/lang/String"
/-- every table word that New1's law asks, flat -/
abbrev words : List Jvm.Cond := [.code New1.yN New1.yB 2 none, .initialized ST, .methodLink ST 27 New4.yN, .instanceMethod New4.yN,
  .code New4.yN New4.yB 6 none, .fieldLink ST 38 ST "COMPACT_STRINGS" "Z", .laysFinal ST ST "value" "[B", .fieldLink ST 9 ST "value" "[B", .laysFinal ST ST "coder" "B", .fieldLink ST 15 ST "coder" "B",
  .methodLink ST 1 Lib.objectInit, .instanceMethod Lib.objectInit, .code Lib.objectInit ⟨#[0xb1]⟩ 1 none, .methodLink ST 177 Cmp3.yN, .static Cmp3.yN, .methodLink ST 47 CodL.yN, .static CodL.yN,
  .code Cmp3.yN Cmp3.yB 6 (some (.array .byte)), .initialized U16, .arrayClass .byte, .methodLink U16 115 Cmp5.yN, .static Cmp5.yN, .code Cmp5.yN Cmp5.yB 7 (some .int), .code CodL.yN CodL.yB 2 (some .byte)]
theorem tab_of {a : Array Value} {s : State} (h : ∀ w ∈ words, w.before a s = true) : New1.tab.before a s = true := by
  have h5 : Cmp5.tab.before a s = true := unparts (wk h (.code Cmp5.yN Cmp5.yB 7 (some .int))) (wks h (.initialized Cmp5.yN.cls :: Cmp5.site))
  have hc : CodL.tab.before a s = true := unparts (wk h (.code CodL.yN CodL.yB 2 (some .byte))) (wks h (.initialized CodL.yN.cls :: CodL.site))
  have q5 : ∀ w ∈ Cmp5.tab :: words, w.before a s = true := fun w hw => (List.mem_cons.mp hw).elim (fun e => e ▸ h5) (h w)
  have h3 : Cmp3.tab.before a s = true := unparts (wk q5 (.code Cmp3.yN Cmp3.yB 6 (some (.array .byte)))) (wks q5 (.initialized Cmp3.yN.cls :: Cmp3.site))
  have q3 : ∀ w ∈ Cmp3.tab :: CodL.tab :: words, w.before a s = true := fun w hw => (List.mem_cons.mp hw).elim (fun e => e ▸ h3) fun hw => (List.mem_cons.mp hw).elim (fun e => e ▸ hc) (h w)
  have h4 : New4.tab.before a s = true := unparts (wk q3 (.code New4.yN New4.yB 6 none)) (wks q3 (.initialized New4.yN.cls :: New4.site))
  have q4 : ∀ w ∈ New4.tab :: words, w.before a s = true := fun w hw => (List.mem_cons.mp hw).elim (fun e => e ▸ h4) (h w)
  exact unparts (wk q4 (.code New1.yN New1.yB 2 none)) (wks q4 (.initialized New1.yN.cls :: New1.site))
/-- the words ride from the start Z to the walk's own state -/
theorem moved {Z s : State} {a0 args : Array Value} (hZ : Z.Warmed39 s.vm) (hw : ∀ d ∈ words, d.before a0 Z = true) : ∀ d ∈ words, d.before args s = true := fun d hd => by
  have q := hw d hd
  have t : ∀ d ∈ words, d = .arrayClass .byte ∨ (d.onTables && d.keepsFace) = true := by decide +kernel
  rcases t d hd with rfl | t
  · exact RoadKit.mvA hZ q
  · exact RoadKit.mv hZ q t
/-- WHAT COMES BACK, over the tables of the start Z: h the heap at the call, h' behind it -/
def Q (Z : State) (x : Addr) (A : Cell) (h : Heap) (v : Option Value) (h' : Heap) (L : List Loc) : Prop := v = none ∧ (∀ y ∈ L, y.base = x) ∧ RoadKit.Keep h h' [x] ∧ h'.size = h.size + 1 ∧ RoadKit.Exa Z h' x ST ∧ RoadKit.Fld Z h' x ST "value" "[B" (.ref h.size) ∧ RoadKit.Fld Z h' x ST "coder" "B" (.int 0) ∧
  (∃ V : Cell, RoadKit.Arr Z h' h.size V .byte ∧ V.vm = .none ∧ Z.vm.findClass "[B" = some V.cls ∧ V.slots.size = A.slots.size ∧ ∀ j, j < A.slots.size → V.slots[j]? = some (.int (lo8 (cv A j)))) ∧
  ∀ (O n d : String) (w : Value), RoadKit.Fld Z h x O n d w → RoadKit.slotOf Z O n d ≠ RoadKit.slotOf Z ST "value" "[B" → RoadKit.slotOf Z O n d ≠ RoadKit.slotOf Z ST "coder" "B" → RoadKit.Fld Z h' x O n d w
/-- **new String(chars) AT A CALL, IN THE ROAD'S FORM**: for specialBack behind newO: x the fresh String, b the char[] with the cell A -/
theorem back {p : Program} {l : Launch} {e : Env} {R : Room} {s : State} {args : Array Value} {below : List Frame} {len W : Nat} {Z : State} {a0 : Array Value} {h : Heap} (hZ : Z.Warmed39 s.vm) (hw : ∀ d ∈ words, d.before a0 Z = true) {kI : Nat} (wi : (Jvm.Cond.instantiable ST kI).before a0 Z = true)
    {x b : Addr} {A : Cell} {z : Int32} {v0 c0 : Value} (E : RoadKit.Exa Z h x ST) (V : RoadKit.Fld Z h x ST "value" "[B" v0) (C : RoadKit.Fld Z h x ST "coder" "B" c0) (K : RoadKit.Arr Z h b A .char) (hty : Typed .char A) (S : RoadKit.Sta Z h ST "COMPACT_STRINGS" "Z" (.int z)) (hz : ¬ z = 0)
    (l0 : 0 < A.slots.size) (l2 : A.slots.size ≤ 536870912) (hp : ∀ i, i < A.slots.size → ¬ 255 < cv A i) (hfr : 4 ≤ R.frames) (hlo : W + 65 ≤ R.locals) :
    Back l R p e below s args New1.yN len W (fun P a => a = #[.ref x, .ref b] ∧ P.U.heap = h ∧ P.cells + 1 ≤ R.cells ∧ P.slots + A.slots.size ≤ R.slots)
      (fun P _ v B => ∃ L, Q Z x A h v B.U.heap L ∧ B.locs = P.locs ++ L ∧ B.cells = P.cells + 1 ∧ B.slots = P.slots + A.slots.size) := by
  intro m meth c P g ig mk a X hg hsize hdg hW hn hp'
  obtain ⟨rfl, rfl, r1, r2⟩ := hp'
  have al : Z.vm.Alike P.U.vm := hZ.alike.trans X.warmed.alike
  obtain ⟨D, cfV, kV, iV, fV, hD, gV, stV, knV, obV, asV, slV⟩ := id V
  obtain ⟨D', cfC, kC, iC, fC, hD', gC, stC, -, -, asC, slC⟩ := id C
  cases hD.symm.trans hD'
  obtain ⟨D2, kD, e1, e2, e3, e4, e5⟩ := id E
  cases hD.symm.trans e1
  obtain ⟨c2, k2, i1, i2, i3, -⟩ := Cond.instantiable_spec wi
  cases e2.symm.trans i1
  cases e3.symm.trans i2
  obtain ⟨kU, u1, u2⟩ := al.2.2 _ _ e3
  have hB : Blank ST x D P.U := ⟨hD, ⟨knV, fun q hq => by rw [hq] at obV; cases obV⟩, by rw [al.findClass]; exact e2, kU, u1, by rw [u2]; exact i3, by rw [u2]; exact e5 i3⟩
  have F1 : Found ST "value" "[B" fV P.U := ⟨SBG.found_only al ⟨cfV, kV, iV, gV⟩, stV⟩
  have F2 : Found ST "coder" "B" fC P.U := ⟨SBG.found_only al ⟨cfC, kC, iC, gC⟩, stC⟩
  have hA : Ch b A P.U := ⟨⟨K.1, State.isArrayOf_alike al K.2.1, K.2.2, by omega⟩, hty⟩
  have hS : StaticIs P.U ST "COMPACT_STRINGS" "Z" (.int z) := by
    obtain ⟨cfS, iS, kS, fS, st, cS, t1, t2, t3, t4, t5, t6, t7⟩ := S
    exact StaticIs.there (s := { Z with heap := P.U.heap }) ⟨cfS, iS, kS, fS, st, cS, t1, t2, t3, t4, t5, (fun q => by rw [q] at t6; cases t6), t7⟩ al rfl
  obtain ⟨v, B, X', ⟨⟨hv, E', V', q1, q2, q3, q4, q5, q6, q7, q8, q9, q10, q11⟩, hl, hc, hs⟩, st⟩ := New1.pays x D fV fC b A z (tab_of (moved hZ hw)) hfr hlo m meth c P g ig mk _ X hg hsize hdg hW hn ⟨r1, r2, rfl, hB, F1, F2, hA, hS, hz, l0, l2, hp⟩
  have al' : Z.vm.Alike B.U.vm := hZ.alike.trans X'.warmed.alike
  have hsz : E'.slots.size = D.slots.size := by
    obtain ⟨-, -, -, kB, w1, w2, w3⟩ := q1
    obtain ⟨kB', y1, y2⟩ := al'.2.2 _ _ e3
    rw [q2.2.1] at w1
    cases w1.symm.trans y1
    rw [w3, e5 i3, y2]
  refine ⟨v, B, X', ⟨_, ⟨hv, ?_, ⟨by omega, fun y cy hy hn' => q10 y cy (by simpa using hn') hy, fun y cy hy => ?_⟩, q11, ⟨E', _, q1.1, by rw [q2.2.1]; exact e2, by rw [q2.2.1]; exact e3, by rw [q2.1]; exact obV, fun _ => by rw [hsz]; exact e5 i3⟩,
    ⟨E', cfV, kV, iV, fV, q1.1, gV, stV, by rw [q2.1]; exact knV, by rw [q2.1]; exact obV, by rw [q2.2.1]; exact asV, q3⟩, ⟨E', cfC, kC, iC, fC, q1.1, gC, stC, by rw [q2.1]; exact knV, by rw [q2.1]; exact obV, by rw [q2.2.1]; exact asC, q4⟩,
    ⟨V', ⟨q5.1, State.isArrayOf_alike al'.symm q5.2.1, q5.2.2.1⟩, q6, by rw [← al'.findClass]; exact q7, q8, fun j hj => by have := q9 j hj; rwa [Nat.zero_add] at this⟩, fun O n d w F n1 n2 => ?_⟩, hl, hc, hs⟩, st⟩
  · intro y hy
    simp only [List.mem_cons, List.not_mem_nil, or_false] at hy
    rcases hy with rfl | rfl <;> rfl
  · by_cases q : y = x
    · subst q
      cases hD.symm.trans hy
      exact ⟨E', q1.1, q2.2.1, q2.1, hsz⟩
    · exact ⟨cy, q10 y cy q hy, rfl, rfl, rfl⟩
  · obtain ⟨D3, cf, k, i, f, g1, g2, g3, g4, g5, g6, g7⟩ := F
    cases hD.symm.trans g1
    simp only [RoadKit.slotOf, g2, gV, gC, Option.map_some, Option.getD_some] at n1 n2
    exact ⟨E', cf, k, i, f, q1.1, g2, g3, by rw [q2.1]; exact g4, by rw [q2.1]; exact g5, by rw [q2.2.1]; exact g6, by rw [q2.2.2 f.slot (by simp [n1, n2])]; exact g7⟩
end StrChars.Road
namespace StrChars.Road
open Jvm Sem ClassFile Op Lib Jvm.Stand Jvm.Free Jvm.Free.XT
/-- WHAT COMES BACK, the byte[] as a list of values -/
def QA (Z : State) (x : Addr) (zn : Int32) (cs : List Int32) (h : Heap) (v : Option Value) (h' : Heap) (L : List Loc) : Prop := v = none ∧ (∀ y ∈ L, y.base = x) ∧ RoadKit.Keep h h' [x] ∧ h'.size = h.size + 1 ∧ RoadKit.Exa Z h' x ST ∧ RoadKit.Fld Z h' x ST "value" "[B" (.ref h.size) ∧ RoadKit.Fld Z h' x ST "coder" "B" (.int 0) ∧
  (∃ kb, Z.vm.findClass "[B" = some kb ∧ RoadKit.Arv Z h' h.size kb .byte zn (cs.map fun c => .int (lo8 c)) (.int 0)) ∧
  ∀ (O n d : String) (w : Value), RoadKit.Fld Z h x O n d w → RoadKit.slotOf Z O n d ≠ RoadKit.slotOf Z ST "value" "[B" → RoadKit.slotOf Z O n d ≠ RoadKit.slotOf Z ST "coder" "B" → RoadKit.Fld Z h' x O n d w
/-- **new String(chars) AT A CALL, THE ARRAYS AS LISTS**: the char[] at b holds cs, not empty, no char above 255 -/
theorem backArv {p : Program} {l : Launch} {e : Env} {R : Room} {s : State} {args : Array Value} {below : List Frame} {len W : Nat} {Z : State} {a0 : Array Value} {h : Heap} (hZ : Z.Warmed39 s.vm) (hw : ∀ d ∈ words, d.before a0 Z = true) {kI : Nat} (wi : (Jvm.Cond.instantiable ST kI).before a0 Z = true)
    {x b : Addr} {k : ClassId} {zn z : Int32} {cs : List Int32} {dv v0 c0 : Value} (E : RoadKit.Exa Z h x ST) (V : RoadKit.Fld Z h x ST "value" "[B" v0) (C : RoadKit.Fld Z h x ST "coder" "B" c0) (K : RoadKit.Arv Z h b k .char zn (cs.map Value.int) dv) (S : RoadKit.Sta Z h ST "COMPACT_STRINGS" "Z" (.int z)) (hz : ¬ z = 0)
    (hlen : zn.toNatClampNeg = cs.length) (h0 : 0 < cs.length) (hbig : cs.length ≤ 536870912) (hall : ∀ c ∈ cs, ¬ 255 < c) (hfr : 4 ≤ R.frames) (hlo : W + 65 ≤ R.locals) :
    Back l R p e below s args New1.yN len W (fun P a => a = #[.ref x, .ref b] ∧ P.U.heap = h ∧ P.cells + 1 ≤ R.cells ∧ P.slots + cs.length ≤ R.slots)
      (fun P _ v B => ∃ L, QA Z x zn cs h v B.U.heap L ∧ B.locs = P.locs ++ L ∧ B.cells = P.cells + 1 ∧ B.slots = P.slots + cs.length) := by
  obtain ⟨A, K1, K2, K3, K4, K5, K6⟩ := K
  have e : A.slots.size = cs.length := K3.trans hlen
  have hat : ∀ (i : Nat) (hi : i < cs.length), A.slots[i]? = some (.int cs[i]) := fun i hi => by rw [K5 i (by omega)]; simp [List.getD_eq_getElem?_getD, hi]
  have hcv : ∀ (i : Nat) (hi : i < cs.length), cv A i = cs[i] := fun i hi => by unfold cv; rw [hat i hi]
  have hty : Typed .char A := fun i v hv => by
    have hi : i < A.slots.size := (Array.getElem?_eq_some_iff.mp hv).1
    have q := K5 i hi
    rw [hv] at q
    rw [Option.some.inj q]
    exact K6 i hi
  refine Back.mono (back hZ hw wi E V C K1 hty S hz (by omega) (by omega) (fun i hi => by rw [hcv i (by omega)]; exact hall _ (List.getElem_mem _)) hfr hlo) (fun P a hp => ⟨hp.1, hp.2.1, hp.2.2.1, by rw [e]; exact hp.2.2.2⟩) (fun P a v B hp hq => ?_)
  obtain ⟨L, ⟨q1, q2, q3, q4, q5, q6, q7, ⟨V', v1, v2, v3, v4, v5⟩, q9⟩, hl, hc, hs⟩ := hq
  refine ⟨L, ⟨q1, q2, q3, q4, q5, q6, q7, ⟨V'.cls, v3, V', v1, rfl, by rw [v4, e, hlen], K4, fun i hi => ?_, fun i hi => ?_⟩, q9⟩, hl, hc, by rw [hs, e]⟩
  · have hi' : i < cs.length := by omega
    rw [v5 i (by omega), hcv i hi']; simp [List.getD_eq_getElem?_getD, hi']
  · have hi' : i < cs.length := by omega
    simp only [List.getD_eq_getElem?_getD, List.getElem?_map, List.getElem?_eq_getElem hi', Option.map_some, Option.getD_some]
    exact fits_lo8 _
end StrChars.Road
namespace StrChars.Road
open Jvm Sem ClassFile Op Lib Jvm.Stand Jvm.Free Jvm.Free.XT
/-- WHAT COMES BACK, in the writer's own shape -/
def QV (Z : State) (x : Addr) (N : Int32) (bs : List Int32) (h : Heap) (n0 : Nat) (v : Option Value) (h' : Heap) (L : List Loc) : Prop := v = none ∧ RoadKit.Fr n0 L ∧ RoadKit.Keep h h' [x] ∧ RoadKit.Exa Z h' x ST ∧ RoadKit.Fld Z h' x ST "coder" "B" (.int 0) ∧
  ∃ (t : Addr) (kb : ClassId), n0 ≤ t ∧ h.size ≤ t ∧ ¬ t = x ∧ RoadKit.Fld Z h' x ST "value" "[B" (.ref t) ∧ RoadKit.Arv Z h' t kb .byte N (bs.map Value.int) (.int 0)
/-- **new String(chars) AT A CALL, FOR THE WRITER**: a char[] of n known ints, each 0 to 255 -/
theorem backV {p : Program} {l : Launch} {e : Env} {R : Room} {s : State} {args : Array Value} {below : List Frame} {len W : Nat} {Z : State} {a0 : Array Value} {h : Heap} (hZ : Z.Warmed39 s.vm) (hw : ∀ d ∈ words, d.before a0 Z = true) {kI : Nat} (wi : (Jvm.Cond.instantiable ST kI).before a0 Z = true)
    {x b : Addr} {kC : ClassId} {cs bs : List Int32} {d v0 c0 : Value} {z N : Int32} {n n0 : Nat} (hx0 : n0 ≤ x) (hh0 : n0 ≤ h.size) (E : RoadKit.Exa Z h x ST) (V : RoadKit.Fld Z h x ST "value" "[B" v0) (C : RoadKit.Fld Z h x ST "coder" "B" c0) (K : RoadKit.Arv Z h b kC .char N (cs.map Value.int) d) (S : RoadKit.Sta Z h ST "COMPACT_STRINGS" "Z" (.int z)) (hz : ¬ z = 0)
    (hn : cs.length = n) (hN : N = Int32.ofNat n) (l0 : 0 < n) (l2 : n ≤ 4000) (hp : ∀ c ∈ cs, ¬ c < 0 ∧ ¬ (255 : Int32) < c) (hb : bs = cs.map (fun c => c.toInt8.toInt32)) (hfr : 4 ≤ R.frames) (hlo : W + 65 ≤ R.locals) :
    Back l R p e below s args (⟨"java/lang/String", "<init>", "([C)V"⟩ : MethodName) len W (fun P a => a = #[.ref x, .ref b] ∧ P.U.heap = h ∧ P.cells + 1 ≤ R.cells ∧ P.slots + n ≤ R.slots)
      (fun P _ v B => ∃ L, QV Z x N bs h n0 v B.U.heap L ∧ B.locs = P.locs ++ L ∧ B.cells = P.cells + 1 ∧ B.slots = P.slots + n) := by
  subst hn hN hb
  refine Back.mono (backArv hZ hw wi E V C K S hz (n32 (by omega)) l0 (by omega) (fun c hc => (hp c hc).2) hfr hlo) (fun P a hp => hp) (fun P a v B hp hq => ?_)
  obtain ⟨L, ⟨q1, q2, q3, q4, q5, q6, q7, ⟨kb, v1, v2⟩, q9⟩, hl, hc, hs⟩ := hq
  exact ⟨L, ⟨q1, fun y hy => by rw [q2 y hy]; exact hx0, q3, q5, q7, h.size, kb, hh0, Nat.le_refl _, Nat.ne_of_gt E.lt, q6, by rw [List.map_map]; exact v2⟩, hl, hc, hs⟩
end StrChars.Road
end Jvm.Pilot.@@N@@
namespace Jvm.Pilot.@@N@@
open Jvm Jvm.ClassFile Sem Op Lib Jvm.Free Jvm.Stand Jvm.LawKit Jvm.RoadKit Bundle Jvm.Pilot.@@N@@.Jvm.D
/-- a boolean as an int -/
def own_b (P : Prop) [Decidable P] : Int32 := if P then 1 else 0
theorem own_b1 {P : Prop} [Decidable P] (h : P) : own_b P = 1 := if_pos h
theorem own_b0 {P : Prop} [Decidable P] (h : ¬ P) : own_b P = 0 := if_neg h
theorem own_b0_eq_f {P : Prop} [Decidable P] (h : P) : ifCond.holds .eq (own_b P) = false := by rw [own_b1 h]; rfl
theorem own_b0_eq_t {P : Prop} [Decidable P] (h : ¬ P) : ifCond.holds .eq (own_b P) = true := by rw [own_b0 h]; rfl
theorem own_b0_ne_t {P : Prop} [Decidable P] (h : P) : ifCond.holds .ne (own_b P) = true := by rw [own_b1 h]; rfl
theorem own_b0_ne_f {P : Prop} [Decidable P] (h : ¬ P) : ifCond.holds .ne (own_b P) = false := by rw [own_b0 h]; rfl
theorem own_bnar (P : Prop) [Decidable P] : nar .boolean (own_b P) = own_b P := by by_cases h : P <;> simp [own_b, h, nar]
theorem own_biff {P Q : Prop} [Decidable P] [Decidable Q] (h : P ↔ Q) : own_b P = own_b Q := by by_cases q : Q <;> simp [own_b, h, q]
/-! own_Go: from T with the frame g on top the method's run comes to an end of which P holds. One rule a plain instruction, so that a walk may fork anywhere. -/
def own_Go (p : Program) (e : Env) (below : List Frame) (P : State → Outcome → Prop) (T : State) (g : JFrame) : Prop :=
  ∃ s₂ o, Steps p.tables e below (T.setTop g) s₂ ∧ s₂.status = .running ∧ Ended s₂ below o ∧ P s₂ o
section OwnGo
variable {p : Program} {l : Launch} {e : Env} {R : Room} {s : State} {m : MethodId} {args : Array Value} {below : List Frame} {meth : Method} {c : Code} {T T' : State} {locs : List Loc} {cells slots : Nat} {P : State → Outcome → Prop} {Ls Ls' : Array Slot} {st : List Value} {pc pc' : Nat} {g g' : JFrame}
theorem own_st (h : ∀ t, Steps p.tables e below (T'.setTop g') t → Steps p.tables e below (T.setTop g) t) (k : own_Go p e below P T' g') : own_Go p e below P T g := by
  obtain ⟨s₂, o, h1, h2⟩ := k; exact ⟨s₂, o, h _ h1, h2⟩
theorem own_tr (h : Steps p.tables e below (T.setTop g) (T'.setTop g')) (k : own_Go p e below P T' g') : own_Go p e below P T g := by
  obtain ⟨s₂, o, h1, h2⟩ := k; exact ⟨s₂, o, h.trans h1, h2⟩
theorem own_aloadN (X : Stand p l e R s m args below meth c T locs cells slots) (hx : p.tables.exec = Jvm.exec) {k : Fin 4} {v : Value} (hd : decode c.code pc = .ok (.aload_n k, 1)) (hp : pc + 1 = pc') (hl : Ls[k.val]? = some (.val v)) (hv : v.isRef = true) (h : own_Go p e below P T (mkF m pc' Ls (v :: st))) : own_Go p e below P T (mkF m pc Ls st) := by
  subst hp; exact own_st (fun t k => XS.aloadN X.here hx rfl hd hl hv k) h
theorem own_aload (X : Stand p l e R s m args below meth c T locs cells slots) (hx : p.tables.exec = Jvm.exec) {k : Nat} {v : Value} (hd : decode c.code pc = .ok (.aload k, 2)) (hp : pc + 2 = pc') (hl : Ls[k]? = some (.val v)) (hv : v.isRef = true) (h : own_Go p e below P T (mkF m pc' Ls (v :: st))) : own_Go p e below P T (mkF m pc Ls st) := by
  subst hp; exact own_st (fun t k => XS.aload X.here hx rfl hd hl hv k) h
theorem own_iloadN (X : Stand p l e R s m args below meth c T locs cells slots) (hx : p.tables.exec = Jvm.exec) {k : Fin 4} {v : Int32} (hd : decode c.code pc = .ok (.iload_n k, 1)) (hp : pc + 1 = pc') (hl : Ls[k.val]? = some (.val (.int v))) (h : own_Go p e below P T (mkF m pc' Ls (.int v :: st))) : own_Go p e below P T (mkF m pc Ls st) := by
  subst hp; exact own_st (fun t k => XS.iloadN X.here hx rfl hd hl k) h
theorem own_iload (X : Stand p l e R s m args below meth c T locs cells slots) (hx : p.tables.exec = Jvm.exec) {k : Nat} {v : Int32} (hd : decode c.code pc = .ok (.iload k, 2)) (hp : pc + 2 = pc') (hl : Ls[k]? = some (.val (.int v))) (h : own_Go p e below P T (mkF m pc' Ls (.int v :: st))) : own_Go p e below P T (mkF m pc Ls st) := by
  subst hp; exact own_st (fun t k => XS.iload X.here hx rfl hd hl k) h
theorem own_lloadN (X : Stand p l e R s m args below meth c T locs cells slots) (hx : p.tables.exec = Jvm.exec) {k : Fin 4} {v : Int64} (hd : decode c.code pc = .ok (.lload_n k, 1)) (hp : pc + 1 = pc') (hl : Ls[k.val]? = some (.val (.long v))) (h : own_Go p e below P T (mkF m pc' Ls (.long v :: st))) : own_Go p e below P T (mkF m pc Ls st) := by
  subst hp; exact own_st (fun t k => XT.lloadN X.here hx rfl hd hl k) h
theorem own_lload (X : Stand p l e R s m args below meth c T locs cells slots) (hx : p.tables.exec = Jvm.exec) {k : Nat} {v : Int64} (hd : decode c.code pc = .ok (.lload k, 2)) (hp : pc + 2 = pc') (hl : Ls[k]? = some (.val (.long v))) (h : own_Go p e below P T (mkF m pc' Ls (.long v :: st))) : own_Go p e below P T (mkF m pc Ls st) := by
  subst hp; exact own_st (fun t k => XT.lload X.here hx rfl hd hl k) h
theorem own_iconst (X : Stand p l e R s m args below meth c T locs cells slots) (hx : p.tables.exec = Jvm.exec) {i : Int} (v : Int32) (hd : decode c.code pc = .ok (.iconst i, 1)) (hp : pc + 1 = pc') (hv : Int32.ofInt i = v) (h : own_Go p e below P T (mkF m pc' Ls (.int v :: st))) : own_Go p e below P T (mkF m pc Ls st) := by
  subst hp hv; exact own_st (fun t k => XS.iconst X.here hx rfl hd k) h
theorem own_bipush (X : Stand p l e R s m args below meth c T locs cells slots) (hx : p.tables.exec = Jvm.exec) {i : Int} (v : Int32) (hd : decode c.code pc = .ok (.bipush i, 2)) (hp : pc + 2 = pc') (hv : (Int8.ofInt i).toInt32 = v) (h : own_Go p e below P T (mkF m pc' Ls (.int v :: st))) : own_Go p e below P T (mkF m pc Ls st) := by
  subst hp hv; exact own_st (fun t k => XS.bipush X.here hx rfl hd k) h
theorem own_sipush (X : Stand p l e R s m args below meth c T locs cells slots) (hx : p.tables.exec = Jvm.exec) {i : Int} (v : Int32) (hd : decode c.code pc = .ok (.sipush i, 3)) (hp : pc + 3 = pc') (hv : (Int16.ofInt i).toInt32 = v) (h : own_Go p e below P T (mkF m pc' Ls (.int v :: st))) : own_Go p e below P T (mkF m pc Ls st) := by
  subst hp hv; exact own_st (fun t k => XS.sipush X.here hx rfl hd k) h
theorem own_lconst (X : Stand p l e R s m args below meth c T locs cells slots) (hx : p.tables.exec = Jvm.exec) {i : Fin 2} (v : Int64) (hd : decode c.code pc = .ok (.lconst i, 1)) (hp : pc + 1 = pc') (hv : Int64.ofNat i = v) (h : own_Go p e below P T (mkF m pc' Ls (.long v :: st))) : own_Go p e below P T (mkF m pc Ls st) := by
  subst hp hv; exact own_st (fun t k => XT.lconst X.here hx rfl hd k) h
theorem own_ldcI (X : Stand p l e R s m args below meth c T locs cells slots) (hx : p.tables.exec = Jvm.exec) {own : String} {index : Nat} {v : Int32} (hown : s.vm.findClass own = some m.cls) (hc : (Cond.constant own index v).before args s = true) (hd : decode c.code pc = .ok (.ldc index, 2)) (hp : pc + 2 = pc') (h : own_Go p e below P T (mkF m pc' Ls (.int v :: st))) : own_Go p e below P T (mkF m pc Ls st) := by
  subst hp; exact own_st (fun t k => X.ldcI hx hown hc rfl hd k) h
theorem own_ldcJ (X : Stand p l e R s m args below meth c T locs cells slots) (hx : p.tables.exec = Jvm.exec) {own : String} {index : Nat} {v : Int64} (hown : s.vm.findClass own = some m.cls) (hc : (Cond.constantLong own index v).before args s = true) (hd : decode c.code pc = .ok (.ldc2_w index, 3)) (hp : pc + 3 = pc') (h : own_Go p e below P T (mkF m pc' Ls (.long v :: st))) : own_Go p e below P T (mkF m pc Ls st) := by
  subst hp; exact own_st (fun t k => X.ldc2J hx hown hc rfl hd k) h
theorem own_null (X : Stand p l e R s m args below meth c T locs cells slots) (hx : p.tables.exec = Jvm.exec) (hd : decode c.code pc = .ok (.aconst_null, 1)) (hp : pc + 1 = pc') (h : own_Go p e below P T (mkF m pc' Ls (.null :: st))) : own_Go p e below P T (mkF m pc Ls st) := by
  subst hp; exact own_st (fun t k => XS.aconstNull X.here hx rfl hd k) h
theorem own_iadd (X : Stand p l e R s m args below meth c T locs cells slots) (hx : p.tables.exec = Jvm.exec) {x y : Int32} (hd : decode c.code pc = .ok (.iadd, 1)) (hp : pc + 1 = pc') (h : own_Go p e below P T (mkF m pc' Ls (.int (x + y) :: st))) : own_Go p e below P T (mkF m pc Ls (.int y :: .int x :: st)) := by
  subst hp; exact own_st (fun t k => XS.iadd X.here hx rfl hd rfl k) h
theorem own_isub (X : Stand p l e R s m args below meth c T locs cells slots) (hx : p.tables.exec = Jvm.exec) {x y : Int32} (hd : decode c.code pc = .ok (.isub, 1)) (hp : pc + 1 = pc') (h : own_Go p e below P T (mkF m pc' Ls (.int (x - y) :: st))) : own_Go p e below P T (mkF m pc Ls (.int y :: .int x :: st)) := by
  subst hp; exact own_st (fun t k => XS.isub X.here hx rfl hd rfl k) h
theorem own_iand (X : Stand p l e R s m args below meth c T locs cells slots) (hx : p.tables.exec = Jvm.exec) {x y : Int32} (hd : decode c.code pc = .ok (.iand, 1)) (hp : pc + 1 = pc') (h : own_Go p e below P T (mkF m pc' Ls (.int (x &&& y) :: st))) : own_Go p e below P T (mkF m pc Ls (.int y :: .int x :: st)) := by
  subst hp; exact own_st (fun t k => XS.iand X.here hx rfl hd rfl k) h
theorem own_imul (X : Stand p l e R s m args below meth c T locs cells slots) (hx : p.tables.exec = Jvm.exec) {x y : Int32} (hd : decode c.code pc = .ok (.imul, 1)) (hp : pc + 1 = pc') (h : own_Go p e below P T (mkF m pc' Ls (.int (x * y) :: st))) : own_Go p e below P T (mkF m pc Ls (.int y :: .int x :: st)) := by
  subst hp; exact own_st (fun t k => XS.imul X.here hx rfl hd rfl k) h
theorem own_irem (X : Stand p l e R s m args below meth c T locs cells slots) (hx : p.tables.exec = Jvm.exec) {x y : Int32} (hd : decode c.code pc = .ok (.irem, 1)) (hp : pc + 1 = pc') (hy : y ≠ 0) (h : own_Go p e below P T (mkF m pc' Ls (.int (x % y) :: st))) : own_Go p e below P T (mkF m pc Ls (.int y :: .int x :: st)) := by
  subst hp; exact own_st (fun t k => iremM X hx rfl hd rfl hy k) h
theorem own_ishr (X : Stand p l e R s m args below meth c T locs cells slots) (hx : p.tables.exec = Jvm.exec) {x y : Int32} (hd : decode c.code pc = .ok (.ishr, 1)) (hp : pc + 1 = pc') (h : own_Go p e below P T (mkF m pc' Ls (.int (x >>> (y &&& 31)) :: st))) : own_Go p e below P T (mkF m pc Ls (.int y :: .int x :: st)) := by
  subst hp; exact own_st (fun t k => XT.ishr X.here hx rfl hd rfl k) h
theorem own_iushr (X : Stand p l e R s m args below meth c T locs cells slots) (hx : p.tables.exec = Jvm.exec) {x y : Int32} (hd : decode c.code pc = .ok (.iushr, 1)) (hp : pc + 1 = pc') (h : own_Go p e below P T (mkF m pc' Ls (.int (XT.ushr x y) :: st))) : own_Go p e below P T (mkF m pc Ls (.int y :: .int x :: st)) := by
  subst hp; exact own_st (fun t k => XT.iushr X.here hx rfl hd rfl k) h
theorem own_i2b (X : Stand p l e R s m args below meth c T locs cells slots) (hx : p.tables.exec = Jvm.exec) {x : Int32} (hd : decode c.code pc = .ok (.i2b, 1)) (hp : pc + 1 = pc') (h : own_Go p e below P T (mkF m pc' Ls (.int (nar .byte x) :: st))) : own_Go p e below P T (mkF m pc Ls (.int x :: st)) := by
  subst hp; exact own_st (fun t k => XT.i2b X.here hx rfl hd rfl k) h
theorem own_i2c (X : Stand p l e R s m args below meth c T locs cells slots) (hx : p.tables.exec = Jvm.exec) {x : Int32} (hd : decode c.code pc = .ok (.i2c, 1)) (hp : pc + 1 = pc') (h : own_Go p e below P T (mkF m pc' Ls (.int (nar .char x) :: st))) : own_Go p e below P T (mkF m pc Ls (.int x :: st)) := by
  subst hp; exact own_st (fun t k => XT.i2c X.here hx rfl hd rfl k) h
theorem own_i2l (X : Stand p l e R s m args below meth c T locs cells slots) (hx : p.tables.exec = Jvm.exec) {x : Int32} (hd : decode c.code pc = .ok (.i2l, 1)) (hp : pc + 1 = pc') (h : own_Go p e below P T (mkF m pc' Ls (.long x.toInt64 :: st))) : own_Go p e below P T (mkF m pc Ls (.int x :: st)) := by
  subst hp; exact own_st (fun t k => XT.i2l X.here hx rfl hd rfl k) h
theorem own_l2i (X : Stand p l e R s m args below meth c T locs cells slots) (hx : p.tables.exec = Jvm.exec) {x : Int64} (hd : decode c.code pc = .ok (.l2i, 1)) (hp : pc + 1 = pc') (h : own_Go p e below P T (mkF m pc' Ls (.int x.toInt32 :: st))) : own_Go p e below P T (mkF m pc Ls (.long x :: st)) := by
  subst hp; exact own_st (fun t k => XT.l2i X.here hx rfl hd rfl k) h
theorem own_lushr (X : Stand p l e R s m args below meth c T locs cells slots) (hx : p.tables.exec = Jvm.exec) {x : Int64} {y : Int32} (hd : decode c.code pc = .ok (.lushr, 1)) (hp : pc + 1 = pc') (h : own_Go p e below P T (mkF m pc' Ls (.long (XT.ushrL x y) :: st))) : own_Go p e below P T (mkF m pc Ls (.int y :: .long x :: st)) := by
  subst hp; exact own_st (fun t k => XT.lushr X.here hx rfl hd rfl k) h
theorem own_lcmp (X : Stand p l e R s m args below meth c T locs cells slots) (hx : p.tables.exec = Jvm.exec) {x y : Int64} (hd : decode c.code pc = .ok (.lcmp, 1)) (hp : pc + 1 = pc') (h : own_Go p e below P T (mkF m pc' Ls (.int (XT.cmpL x y) :: st))) : own_Go p e below P T (mkF m pc Ls (.long y :: .long x :: st)) := by
  subst hp; exact own_st (fun t k => XT.lcmp X.here hx rfl hd rfl k) h
theorem own_dup (X : Stand p l e R s m args below meth c T locs cells slots) (hx : p.tables.exec = Jvm.exec) {x : Value} (hd : decode c.code pc = .ok (.dup, 1)) (hp : pc + 1 = pc') (hc : x.category = 1) (h : own_Go p e below P T (mkF m pc' Ls (x :: x :: st))) : own_Go p e below P T (mkF m pc Ls (x :: st)) := by
  subst hp; exact own_st (fun t k => XS.dup X.here hx rfl hd rfl hc k) h
theorem own_dupX1 (X : Stand p l e R s m args below meth c T locs cells slots) (hx : p.tables.exec = Jvm.exec) {x y : Value} (hd : decode c.code pc = .ok (.dup_x1, 1)) (hp : pc + 1 = pc') (hc : x.category = 1) (hc' : y.category = 1) (h : own_Go p e below P T (mkF m pc' Ls (x :: y :: x :: st))) : own_Go p e below P T (mkF m pc Ls (x :: y :: st)) := by
  subst hp; exact own_st (fun t k => XT.dupX1 X.here hx rfl hd rfl hc hc' k) h
theorem own_pop (X : Stand p l e R s m args below meth c T locs cells slots) (hx : p.tables.exec = Jvm.exec) {x : Value} (hd : decode c.code pc = .ok (.pop, 1)) (hp : pc + 1 = pc') (hc : x.category = 1) (h : own_Go p e below P T (mkF m pc' Ls st)) : own_Go p e below P T (mkF m pc Ls (x :: st)) := by
  subst hp; exact own_st (fun t k => XT.pop X.here hx rfl hd rfl hc k) h
theorem own_istoreN (X : Stand p l e R s m args below meth c T locs cells slots) (hx : p.tables.exec = Jvm.exec) {k : Fin 4} {x : Int32} (hd : decode c.code pc = .ok (.istore_n k, 1)) (hp : pc + 1 = pc') (hl : storeLocals Ls k.val (.int x) = some Ls') (h : own_Go p e below P T (mkF m pc' Ls' st)) : own_Go p e below P T (mkF m pc Ls (.int x :: st)) := by
  subst hp; exact own_st (fun t k => XS.istoreN X.here hx rfl hd rfl hl k) h
theorem own_istore (X : Stand p l e R s m args below meth c T locs cells slots) (hx : p.tables.exec = Jvm.exec) {k : Nat} {x : Int32} (hd : decode c.code pc = .ok (.istore k, 2)) (hp : pc + 2 = pc') (hl : storeLocals Ls k (.int x) = some Ls') (h : own_Go p e below P T (mkF m pc' Ls' st)) : own_Go p e below P T (mkF m pc Ls (.int x :: st)) := by
  subst hp; exact own_st (fun t k => XS.istore X.here hx rfl hd rfl hl k) h
theorem own_lstoreN (X : Stand p l e R s m args below meth c T locs cells slots) (hx : p.tables.exec = Jvm.exec) {k : Fin 4} {x : Int64} (hd : decode c.code pc = .ok (.lstore_n k, 1)) (hp : pc + 1 = pc') (hl : storeLocals Ls k.val (.long x) = some Ls') (h : own_Go p e below P T (mkF m pc' Ls' st)) : own_Go p e below P T (mkF m pc Ls (.long x :: st)) := by
  subst hp; exact own_st (fun t k => XT.lstoreN X.here hx rfl hd rfl hl k) h
theorem own_lstore (X : Stand p l e R s m args below meth c T locs cells slots) (hx : p.tables.exec = Jvm.exec) {k : Nat} {x : Int64} (hd : decode c.code pc = .ok (.lstore k, 2)) (hp : pc + 2 = pc') (hl : storeLocals Ls k (.long x) = some Ls') (h : own_Go p e below P T (mkF m pc' Ls' st)) : own_Go p e below P T (mkF m pc Ls (.long x :: st)) := by
  subst hp; exact own_st (fun t k => XT.lstore X.here hx rfl hd rfl hl k) h
theorem own_astoreN (X : Stand p l e R s m args below meth c T locs cells slots) (hx : p.tables.exec = Jvm.exec) {k : Fin 4} {x : Value} (hd : decode c.code pc = .ok (.astore_n k, 1)) (hp : pc + 1 = pc') (hv : x.isRef = true) (hl : storeLocals Ls k.val x = some Ls') (h : own_Go p e below P T (mkF m pc' Ls' st)) : own_Go p e below P T (mkF m pc Ls (x :: st)) := by
  subst hp; exact own_st (fun t k => XS.astoreN X.here hx rfl hd rfl hv hl k) h
theorem own_astore (X : Stand p l e R s m args below meth c T locs cells slots) (hx : p.tables.exec = Jvm.exec) {k : Nat} {x : Value} (hd : decode c.code pc = .ok (.astore k, 2)) (hp : pc + 2 = pc') (hv : x.isRef = true) (hl : storeLocals Ls k x = some Ls') (h : own_Go p e below P T (mkF m pc' Ls' st)) : own_Go p e below P T (mkF m pc Ls (x :: st)) := by
  subst hp; exact own_st (fun t k => XS.astore X.here hx rfl hd rfl hv hl k) h
theorem own_goto (X : Stand p l e R s m args below meth c T locs cells slots) (hx : p.tables.exec = Jvm.exec) {o : Int} (hd : decode c.code pc = .ok (.goto o, 3)) (ho : 0 ≤ (pc : Int) + o) (hp : ((pc : Int) + o).toNat = pc') (h : own_Go p e below P T (mkF m pc' Ls st)) : own_Go p e below P T (mkF m pc Ls st) := by
  exact own_st (fun t k => XS.goto X.here hx rfl (pc0 := pc) rfl hd ho hp k) h
theorem own_ifY (X : Stand p l e R s m args below meth c T locs cells slots) (hx : p.tables.exec = Jvm.exec) {cd : ClassFile.Cond} {x : Int32} {o : Int} (hd : decode c.code pc = .ok (.ifCond cd o, 3)) (hc : ifCond.holds cd x = true) (ho : 0 ≤ (pc : Int) + o) (hp : ((pc : Int) + o).toNat = pc') (h : own_Go p e below P T (mkF m pc' Ls st)) : own_Go p e below P T (mkF m pc Ls (.int x :: st)) := by
  exact own_st (fun t k => XS.ifYes X.here hx rfl (pc0 := pc) rfl hd rfl hc ho hp k) h
theorem own_ifN (X : Stand p l e R s m args below meth c T locs cells slots) (hx : p.tables.exec = Jvm.exec) {cd : ClassFile.Cond} {x : Int32} {o : Int} (hd : decode c.code pc = .ok (.ifCond cd o, 3)) (hc : ifCond.holds cd x = false) (hp : pc + 3 = pc') (h : own_Go p e below P T (mkF m pc' Ls st)) : own_Go p e below P T (mkF m pc Ls (.int x :: st)) := by
  subst hp; exact own_st (fun t k => XS.ifNo X.here hx rfl hd rfl hc k) h
theorem own_icmpY (X : Stand p l e R s m args below meth c T locs cells slots) (hx : p.tables.exec = Jvm.exec) {cd : ClassFile.Cond} {x y : Int32} {o : Int} (hd : decode c.code pc = .ok (.if_icmp cd o, 3)) (hc : if_icmp.holds cd x y = true) (ho : 0 ≤ (pc : Int) + o) (hp : ((pc : Int) + o).toNat = pc') (h : own_Go p e below P T (mkF m pc' Ls st)) : own_Go p e below P T (mkF m pc Ls (.int y :: .int x :: st)) := by
  exact own_st (fun t k => XS.icmpYes X.here hx rfl (pc0 := pc) rfl hd rfl hc ho hp k) h
theorem own_icmpN (X : Stand p l e R s m args below meth c T locs cells slots) (hx : p.tables.exec = Jvm.exec) {cd : ClassFile.Cond} {x y : Int32} {o : Int} (hd : decode c.code pc = .ok (.if_icmp cd o, 3)) (hc : if_icmp.holds cd x y = false) (hp : pc + 3 = pc') (h : own_Go p e below P T (mkF m pc' Ls st)) : own_Go p e below P T (mkF m pc Ls (.int y :: .int x :: st)) := by
  subst hp; exact own_st (fun t k => XS.icmpNo X.here hx rfl hd rfl hc k) h
theorem own_ifnullY (X : Stand p l e R s m args below meth c T locs cells slots) (hx : p.tables.exec = Jvm.exec) {o : Int} (hd : decode c.code pc = .ok (.ifnull o, 3)) (ho : 0 ≤ (pc : Int) + o) (hp : ((pc : Int) + o).toNat = pc') (h : own_Go p e below P T (mkF m pc' Ls st)) : own_Go p e below P T (mkF m pc Ls (.null :: st)) := by
  exact own_st (fun t k => XS.ifnullYes X.here hx rfl (pc0 := pc) rfl hd rfl ho hp k) h
theorem own_ifnullN (X : Stand p l e R s m args below meth c T locs cells slots) (hx : p.tables.exec = Jvm.exec) {a : Addr} {o : Int} (hd : decode c.code pc = .ok (.ifnull o, 3)) (hp : pc + 3 = pc') (h : own_Go p e below P T (mkF m pc' Ls st)) : own_Go p e below P T (mkF m pc Ls (.ref a :: st)) := by
  subst hp; exact own_st (fun t k => XS.ifnullNo X.here hx rfl hd rfl k) h
theorem own_ifnonnullY (X : Stand p l e R s m args below meth c T locs cells slots) (hx : p.tables.exec = Jvm.exec) {a : Addr} {o : Int} (hd : decode c.code pc = .ok (.ifnonnull o, 3)) (ho : 0 ≤ (pc : Int) + o) (hp : ((pc : Int) + o).toNat = pc') (h : own_Go p e below P T (mkF m pc' Ls st)) : own_Go p e below P T (mkF m pc Ls (.ref a :: st)) := by
  exact own_st (fun t k => XT.ifnonnullYes X.here hx rfl (pc0 := pc) rfl hd rfl ho hp k) h
theorem own_ifnonnullN (X : Stand p l e R s m args below meth c T locs cells slots) (hx : p.tables.exec = Jvm.exec) {o : Int} (hd : decode c.code pc = .ok (.ifnonnull o, 3)) (hp : pc + 3 = pc') (h : own_Go p e below P T (mkF m pc' Ls st)) : own_Go p e below P T (mkF m pc Ls (.null :: st)) := by
  subst hp; exact own_st (fun t k => XT.ifnonnullNo X.here hx rfl hd rfl k) h
theorem own_acmpY (X : Stand p l e R s m args below meth c T locs cells slots) (hx : p.tables.exec = Jvm.exec) {cd : ACond} {x y : Value} {o : Int} (h1 : x.isRef = true) (h2 : y.isRef = true) (hd : decode c.code pc = .ok (.if_acmp cd o, 3)) (hc : XT.acmp cd x y = true) (ho : 0 ≤ (pc : Int) + o) (hp : ((pc : Int) + o).toNat = pc') (h : own_Go p e below P T (mkF m pc' Ls st)) : own_Go p e below P T (mkF m pc Ls (y :: x :: st)) := by
  exact own_st (fun t k => XT.acmpYes X.here hx rfl (pc0 := pc) rfl hd rfl h1 h2 hc ho hp k) h
theorem own_acmpN (X : Stand p l e R s m args below meth c T locs cells slots) (hx : p.tables.exec = Jvm.exec) {cd : ACond} {x y : Value} {o : Int} (h1 : x.isRef = true) (h2 : y.isRef = true) (hd : decode c.code pc = .ok (.if_acmp cd o, 3)) (hc : XT.acmp cd x y = false) (hp : pc + 3 = pc') (h : own_Go p e below P T (mkF m pc' Ls st)) : own_Go p e below P T (mkF m pc Ls (y :: x :: st)) := by
  subst hp; exact own_st (fun t k => XT.acmpNo X.here hx rfl hd rfl h1 h2 hc k) h
theorem own_cut (h1 : own_Go p e below P T g' → own_Go p e below P T g) (h2 : own_Go p e below P T g') : own_Go p e below P T g := h1 h2
theorem own_iinc (X : Stand p l e R s m args below meth c T locs cells slots) (hx : p.tables.exec = Jvm.exec) {k : Nat} {cst : Int} {x : Int32} (v : Int32) (hd : decode c.code pc = .ok (.iinc k cst, 3)) (hp : pc + 3 = pc') (hl : Ls[k]? = some (.val (.int x))) (hv : x + Int32.ofInt cst = v) (hs : storeLocals Ls k (.int v) = some Ls') (h : own_Go p e below P T (mkF m pc' Ls' st)) : own_Go p e below P T (mkF m pc Ls st) := by
  subst hp hv; exact own_st (fun t k => XS.iinc X.here hx rfl hd hl hs k) h
theorem own_stv {Ls : Array Slot} {k : Nat} {v : Value} {o : Slot} (hv : v.isRef = true) (hold : Ls[k]? = some o) (ho : o = .unset ∨ ∃ w, o = .val w ∧ w.category = 1) : storeLocals Ls k v = some (Ls.setIfInBounds k (.val v)) := XS.store1 hold ho (XT.cat1 hv)
abbrev own_End (s : State) (Q : Option Value → Heap → List Loc → Prop) (k n : Nat) : State → Outcome → Prop := fun u o => ∃ v L, o = .returned v ∧ Q v u.heap L ∧ FrameEnd s o u L k n
variable {Q : Option Value → Heap → List Loc → Prop} {ck sn : Nat}
theorem own_retZ (X : Stand p l e R s m args below meth c T locs cells slots) (hx : p.tables.exec = Jvm.exec) (hk : meth.locks = false) {t : FieldType} (hret : meth.sig.returnType = some t) (ht : t = .boolean ∨ t = .byte ∨ t = .char ∨ t = .short) {z : Int32} (hd : decode c.code pc = .ok (.ireturn, 1)) (hc : cells ≤ ck) (hs : slots ≤ sn) (hQ : Q (some (.int (nar t z))) T.heap locs) :
    own_Go p e below (own_End s Q ck sn) T (mkF m pc Ls (.int z :: st)) := by
  obtain ⟨fs, hr, hrun, hended, hW, hsame⟩ := X.leave (v := some (.int (nar t z))) (fun h => by rw [hret] at h; cases h) hk
  exact ⟨_, _, retN X hx hret ht hd hr, hrun, hended, _, _, rfl, hQ, ⟨_, rfl⟩, hW, hsame.mono hc hs⟩
theorem own_retI (X : Stand p l e R s m args below meth c T locs cells slots) (hx : p.tables.exec = Jvm.exec) (hk : meth.locks = false) (hret : meth.sig.returnType = some .int) {z : Int32} (hd : decode c.code pc = .ok (.ireturn, 1)) (hc : cells ≤ ck) (hs : slots ≤ sn) (hQ : Q (some (.int z)) T.heap locs) :
    own_Go p e below (own_End s Q ck sn) T (mkF m pc Ls (.int z :: st)) := by
  obtain ⟨fs, hr, hrun, hended, hW, hsame⟩ := X.leave (v := some (.int z)) (fun h => by rw [hret] at h; cases h) hk
  exact ⟨_, _, retOut X hx hret rfl (Or.inl ⟨rfl, Or.inl rfl, z, rfl⟩) hd hr, hrun, hended, _, _, rfl, hQ, ⟨_, rfl⟩, hW, hsame.mono hc hs⟩
theorem own_retL (X : Stand p l e R s m args below meth c T locs cells slots) (hx : p.tables.exec = Jvm.exec) (hk : meth.locks = false) (hret : meth.sig.returnType = some .long) {z : Int64} (hd : decode c.code pc = .ok (.lreturn, 1)) (hc : cells ≤ ck) (hs : slots ≤ sn) (hQ : Q (some (.long z)) T.heap locs) :
    own_Go p e below (own_End s Q ck sn) T (mkF m pc Ls (.long z :: st)) := by
  obtain ⟨fs, hr, hrun, hended, hW, hsame⟩ := X.leave (v := some (.long z)) (fun h => by rw [hret] at h; cases h) hk
  exact ⟨_, _, retOut X hx hret rfl (Or.inr (Or.inl ⟨rfl, rfl, z, rfl⟩)) hd hr, hrun, hended, _, _, rfl, hQ, ⟨_, rfl⟩, hW, hsame.mono hc hs⟩
theorem own_narR {t : FieldType} {w : Value} (ht : t.isReference = true) (hw : w.isRef = true) : narrow t w = w := by
  rcases ref_cases hw with rfl | ⟨a, rfl⟩ <;> cases t <;> first | rfl | (cases ht; done)
theorem own_retA (X : Stand p l e R s m args below meth c T locs cells slots) (hx : p.tables.exec = Jvm.exec) (hk : meth.locks = false) {t : FieldType} (hret : meth.sig.returnType = some t) (ht : t.isReference = true) {w : Value} (hw : w.isRef = true) (hd : decode c.code pc = .ok (.areturn, 1)) (hc : cells ≤ ck) (hs : slots ≤ sn) (hQ : Q (some w) T.heap locs) :
    own_Go p e below (own_End s Q ck sn) T (mkF m pc Ls (w :: st)) := by
  obtain ⟨fs, hr, hrun, hended, hW, hsame⟩ := X.leave (v := some w) (fun h => by rw [hret] at h; cases h) hk
  exact ⟨_, _, retOut X hx hret (own_narR ht hw) (Or.inr (Or.inr (Or.inr (Or.inr ⟨rfl, ht, hw⟩)))) hd hr, hrun, hended, _, _, rfl, hQ, ⟨_, rfl⟩, hW, hsame.mono hc hs⟩
theorem own_retV (X : Stand p l e R s m args below meth c T locs cells slots) (hx : p.tables.exec = Jvm.exec) (hk : meth.locks = false) (hret : meth.sig.returnType = none) (hd : decode c.code pc = .ok (.return_, 1)) (hc : cells ≤ ck) (hs : slots ≤ sn) (hQ : Q none T.heap locs) :
    own_Go p e below (own_End s Q ck sn) T (mkF m pc Ls []) := by
  obtain ⟨fs, hr, hrun, hended, hW, hsame⟩ := X.leave (v := none) (fun _ => rfl) hk
  exact ⟨_, _, X.returnOut hx hret hd hr, hrun, hended, _, _, rfl, hQ, ⟨_, rfl⟩, hW, hsame.mono hc hs⟩
end OwnGo
section OwnArr
variable {p : Program} {l : Launch} {e : Env} {R : Room} {s : State} {m : MethodId} {args : Array Value} {below : List Frame} {meth : Method} {c : Code} {T : State} {locs : List Loc} {cells slots : Nat} {P : State → Outcome → Prop} {Ls : Array Slot} {st : List Value} {pc pc' : Nat} {Z : State} {h : Heap} {a : Addr} {k : ClassId} {ty : FieldType} {n j : Int32} {vs : List Value} {dv : Value}
theorem own_alen (X : Stand p l e R s m args below meth c T locs cells slots) (hx : p.tables.exec = Jvm.exec) (hZ : Z.Warmed39 s.vm) (eT : T.heap = h) (V : Arv Z h a k ty n vs dv) (hd : decode c.code pc = .ok (.arraylength, 1)) (hp : pc + 1 = pc') (hk : own_Go p e below P T (mkF m pc' Ls (.int n :: st))) : own_Go p e below P T (mkF m pc Ls (.ref a :: st)) := by
  subst hp
  obtain ⟨cl, A, -, S, q, -, -⟩ := V
  have w := X.arraylength hx (by rw [eT]; exact A.1) (State.isArrayOf_alike hZ.alike A.2.1) (g := mkF m pc Ls (.ref a :: st)) rfl rfl hd
  rw [len_of S q] at w
  exact own_st w hk
theorem own_baload (X : Stand p l e R s m args below meth c T locs cells slots) (hx : p.tables.exec = Jvm.exec) (hZ : Z.Warmed39 s.vm) (eT : T.heap = h) (V : Arv Z h a k .byte n vs dv) {x : Int32} (hj : ¬ j < 0 ∧ j < n) (hv : vs.getD j.toNatClampNeg dv = .int x) (hd : decode c.code pc = .ok (.baload, 1)) (hp : pc + 1 = pc') (hk : own_Go p e below P T (mkF m pc' Ls (.int x :: st))) : own_Go p e below P T (mkF m pc Ls (.int j :: .ref a :: st)) := by
  subst hp
  obtain ⟨cl, A, -, S, q, H, -⟩ := V
  exact own_st (X.baloadBytes hx (j := j) (v := .int x) (by rw [eT]; exact A.1) (State.isArrayOf_alike hZ.alike A.2.1) A.2.2 (inb_of S hj) (H.at (inb_of S hj) hv) (g := mkF m pc Ls (.int j :: .ref a :: st)) rfl rfl hd) hk
theorem own_aaload (X : Stand p l e R s m args below meth c T locs cells slots) (hx : p.tables.exec = Jvm.exec) (hZ : Z.Warmed39 s.vm) (eT : T.heap = h) (V : Arv Z h a k ty n vs dv) (ht : ty.isReference = true) {x : Value} (hj : ¬ j < 0 ∧ j < n) (hv : vs.getD j.toNatClampNeg dv = x) (hd : decode c.code pc = .ok (.aaload, 1)) (hp : pc + 1 = pc') (hk : own_Go p e below P T (mkF m pc' Ls (x :: st))) : own_Go p e below P T (mkF m pc Ls (.int j :: .ref a :: st)) := by
  subst hp
  obtain ⟨cl, A, -, S, q, H, -⟩ := V
  exact own_st (X.aaload hx (j := j) (v := x) (by rw [eT]; exact A.1) (State.isArrayOf_alike hZ.alike A.2.1) ht A.2.2 (inb_of S hj) (H.at (inb_of S hj) hv) (g := mkF m pc Ls (.int j :: .ref a :: st)) rfl rfl hd) hk
/-- a byte stored: the list with that place set -/
theorem own_bastore (X : Stand p l e R s m args below meth c T locs cells slots) (hx : p.tables.exec = Jvm.exec) (hZ : Z.Warmed39 s.vm) (eT : T.heap = h) (V : Arv Z h a k .byte n vs dv) (i : Nat) {x : Int32} (hj : ¬ j < 0 ∧ j < n) (hi : j.toNatClampNeg = i) (hl : i < vs.length) (hd : decode c.code pc = .ok (.bastore, 1)) :
    ∃ T' h', Stand p l e R s m args below meth c T' (locs ++ [⟨a, j.toNatClampNeg⟩]) cells slots ∧ T'.heap = h' ∧ Wr h h' a j.toNatClampNeg (.int (nar .byte x)) ∧ Arv Z h' a k .byte n (vs.set i (.int (nar .byte x))) dv ∧ ∀ target, Steps p.tables e below (T'.setTop (mkF m (pc + 1) Ls st)) target → Steps p.tables e below (T.setTop (mkF m pc Ls (.int x :: .int j :: .ref a :: st))) target := by
  obtain ⟨cl, A, q1, S, q, H, G⟩ := V
  obtain ⟨T', h', X', e', W, st'⟩ := stB X hx hZ eT A (j := j) (x := x) (inb_of S hj) (g := mkF m pc Ls (.int x :: .int j :: .ref a :: st)) rfl rfl hd
  exact ⟨T', h', X', e', W, Arv.set A q1 S q H G (fits_nar_byte x) W i hi hl, st'⟩
end OwnArr
section OwnWide
variable {p : Program} {l : Launch} {e : Env} {R : Room} {s : State} {m : MethodId} {args : Array Value} {below : List Frame} {meth : Method} {c : Code} {T : State} {locs : List Loc} {cells slots : Nat} {Ls : Array Slot} {st : List Value} {pc : Nat} {vm1 : Vm} {kn : Nat} {Q : Option Value → Heap → List Loc → Prop} {ck sn : Nat}
abbrev own_EndW (s : State) (Q : Option Value → Heap → List Loc → Prop) (k n : Nat) : State → Outcome → Prop := fun u o => ∃ v L, o = .returned v ∧ Q v u.heap L ∧ ReturnedEndW s o u L k n
theorem own_wmono {s t : State} {o : Outcome} {L : List Loc} {k n k' n' : Nat} (h : ReturnedEndW s o t L k n) (hk : k ≤ k') (hn : n ≤ n') : ReturnedEndW s o t L k' n' := ⟨h.1, h.2.1, h.2.2.1, h.2.2.2.mono hk hn⟩
theorem own_retZW (X : Stand p l e R (s.setVm vm1) m args below meth c T locs cells slots) (hS : s.Since vm1 kn) (hn : kn ≤ T.heap.size) (hx : p.tables.exec = Jvm.exec) (hk : meth.locks = false) {t : FieldType} (hret : meth.sig.returnType = some t) (ht : t = .boolean ∨ t = .byte ∨ t = .char ∨ t = .short) {z : Int32} (hd : decode c.code pc = .ok (.ireturn, 1)) (hc : cells ≤ ck) (hs : slots ≤ sn) (hQ : Q (some (.int (nar t z))) T.heap locs) :
    own_Go p e below (own_EndW s Q ck sn) T (mkF m pc Ls (.int z :: st)) := by
  obtain ⟨fs, hr, hrun, hended, hW⟩ := X.leaveW hS hn (v := some (.int (nar t z))) (fun h => by rw [hret] at h; cases h) hk
  exact ⟨_, _, retN X hx hret ht hd hr, hrun, hended, _, _, rfl, hQ, own_wmono hW hc hs⟩
theorem own_retIW (X : Stand p l e R (s.setVm vm1) m args below meth c T locs cells slots) (hS : s.Since vm1 kn) (hn : kn ≤ T.heap.size) (hx : p.tables.exec = Jvm.exec) (hk : meth.locks = false) (hret : meth.sig.returnType = some .int) {z : Int32} (hd : decode c.code pc = .ok (.ireturn, 1)) (hc : cells ≤ ck) (hs : slots ≤ sn) (hQ : Q (some (.int z)) T.heap locs) :
    own_Go p e below (own_EndW s Q ck sn) T (mkF m pc Ls (.int z :: st)) := by
  obtain ⟨fs, hr, hrun, hended, hW⟩ := X.leaveW hS hn (v := some (.int z)) (fun h => by rw [hret] at h; cases h) hk
  exact ⟨_, _, retOut X hx hret rfl (Or.inl ⟨rfl, Or.inl rfl, z, rfl⟩) hd hr, hrun, hended, _, _, rfl, hQ, own_wmono hW hc hs⟩
theorem own_retAW (X : Stand p l e R (s.setVm vm1) m args below meth c T locs cells slots) (hS : s.Since vm1 kn) (hn : kn ≤ T.heap.size) (hx : p.tables.exec = Jvm.exec) (hk : meth.locks = false) {t : FieldType} (hret : meth.sig.returnType = some t) (ht : t.isReference = true) {w : Value} (hw : w.isRef = true) (hd : decode c.code pc = .ok (.areturn, 1)) (hc : cells ≤ ck) (hs : slots ≤ sn) (hQ : Q (some w) T.heap locs) :
    own_Go p e below (own_EndW s Q ck sn) T (mkF m pc Ls (w :: st)) := by
  obtain ⟨fs, hr, hrun, hended, hW⟩ := X.leaveW hS hn (v := some w) (fun h => by rw [hret] at h; cases h) hk
  exact ⟨_, _, retOut X hx hret (own_narR ht hw) (Or.inr (Or.inr (Or.inr (Or.inr ⟨rfl, ht, hw⟩)))) hd hr, hrun, hended, _, _, rfl, hQ, own_wmono hW hc hs⟩
theorem own_retVW (X : Stand p l e R (s.setVm vm1) m args below meth c T locs cells slots) (hS : s.Since vm1 kn) (hn : kn ≤ T.heap.size) (hx : p.tables.exec = Jvm.exec) (hk : meth.locks = false) (hret : meth.sig.returnType = none) (hd : decode c.code pc = .ok (.return_, 1)) (hc : cells ≤ ck) (hs : slots ≤ sn) (hQ : Q none T.heap locs) :
    own_Go p e below (own_EndW s Q ck sn) T (mkF m pc Ls []) := by
  obtain ⟨fs, hr, hrun, hended, hW⟩ := X.leaveW hS hn (v := none) (fun _ => rfl) hk
  exact ⟨_, _, X.returnOut hx hret hd hr, hrun, hended, _, _, rfl, hQ, own_wmono hW hc hs⟩
end OwnWide
theorem own_fitR {C : String} {v : Value} (h : v.isRef = true) : fits (.object C) v = true := by rcases ref_cases h with rfl | ⟨a, rfl⟩ <;> rfl
theorem own_ch255 (x : Int32) : ¬ nar .char (nar .char (x &&& (255 : Int32))) < 0 ∧ ¬ (255 : Int32) < nar .char (nar .char (x &&& (255 : Int32))) := by
  have e1 : nar .char (x &&& 255) = x &&& 255 := i2c_mask x
  rw [e1, e1]
  have h := c_and x 255 (by decide)
  have e2 : (255 : Int32).toInt = 255 := rfl
  have e3 : (0 : Int32).toInt = 0 := rfl
  simp only [Int32.lt_iff_toInt_lt, e2, e3] at *
  omega
section OwnChr
variable {p : Program} {l : Launch} {e : Env} {R : Room} {s : State} {m : MethodId} {args : Array Value} {below : List Frame} {meth : Method} {c : Code} {T : State} {locs : List Loc} {cells slots : Nat} {Ls : Array Slot} {st : List Value} {pc : Nat} {Z : State} {h : Heap} {a : Addr} {k : ClassId} {n j : Int32} {vs : List Value} {dv : Value}
theorem own_castore (X : Stand p l e R s m args below meth c T locs cells slots) (hx : p.tables.exec = Jvm.exec) (hZ : Z.Warmed39 s.vm) (eT : T.heap = h) (V : Arv Z h a k .char n vs dv) (i : Nat) {x : Int32} (hj : ¬ j < 0 ∧ j < n) (hi : j.toNatClampNeg = i) (hl : i < vs.length) (hd : decode c.code pc = .ok (.castore, 1)) :
    ∃ T' h', Stand p l e R s m args below meth c T' (locs ++ [⟨a, j.toNatClampNeg⟩]) cells slots ∧ T'.heap = h' ∧ Wr h h' a j.toNatClampNeg (.int (nar .char x)) ∧ Arv Z h' a k .char n (vs.set i (.int (nar .char x))) dv ∧ ∀ target, Steps p.tables e below (T'.setTop (mkF m (pc + 1) Ls st)) target → Steps p.tables e below (T.setTop (mkF m pc Ls (.int x :: .int j :: .ref a :: st))) target := by
  obtain ⟨cl, A, q1, S, q, H, G⟩ := V
  obtain ⟨T', h', X', e', W, st'⟩ := stC X hx hZ eT A (j := j) (x := x) (inb_of S hj) (g := mkF m pc Ls (.int x :: .int j :: .ref a :: st)) rfl rfl hd
  exact ⟨T', h', X', e', W, Arv.set A q1 S q H G (fits_nar_char x) W i hi hl, st'⟩
end OwnChr
theorem d1_0 : decode prog_21_method_1_code 0 = .ok (.aload_n 0, 1) := by decide +kernel
theorem d1_1 : decode prog_21_method_1_code 1 = .ok (.invokespecial 1, 3) := by decide +kernel
theorem d1_4 : decode prog_21_method_1_code 4 = .ok (.aload_n 0, 1) := by decide +kernel
theorem d1_5 : decode prog_21_method_1_code 5 = .ok (.aload_n 1, 1) := by decide +kernel
theorem d1_6 : decode prog_21_method_1_code 6 = .ok (.putfield 7, 3) := by decide +kernel
theorem d1_9 : decode prog_21_method_1_code 9 = .ok (.aload_n 0, 1) := by decide +kernel
theorem d1_10 : decode prog_21_method_1_code 10 = .ok (.aload_n 2, 1) := by decide +kernel
theorem d1_11 : decode prog_21_method_1_code 11 = .ok (.putfield 13, 3) := by decide +kernel
theorem d1_14 : decode prog_21_method_1_code 14 = .ok (.aload_n 0, 1) := by decide +kernel
theorem d1_15 : decode prog_21_method_1_code 15 = .ok (.iload_n 3, 1) := by decide +kernel
theorem d1_16 : decode prog_21_method_1_code 16 = .ok (.putfield 16, 3) := by decide +kernel
theorem d1_19 : decode prog_21_method_1_code 19 = .ok (.aload_n 0, 1) := by decide +kernel
theorem d1_20 : decode prog_21_method_1_code 20 = .ok (.aload 4, 2) := by decide +kernel
theorem d1_22 : decode prog_21_method_1_code 22 = .ok (.putfield 20, 3) := by decide +kernel
theorem d1_25 : decode prog_21_method_1_code 25 = .ok (.aload_n 0, 1) := by decide +kernel
theorem d1_26 : decode prog_21_method_1_code 26 = .ok (.iload 5, 2) := by decide +kernel
theorem d1_28 : decode prog_21_method_1_code 28 = .ok (.putfield 23, 3) := by decide +kernel
theorem d1_31 : decode prog_21_method_1_code 31 = .ok (.aload_n 0, 1) := by decide +kernel
theorem d1_32 : decode prog_21_method_1_code 32 = .ok (.iload 6, 2) := by decide +kernel
theorem d1_34 : decode prog_21_method_1_code 34 = .ok (.putfield 27, 3) := by decide +kernel
theorem d1_37 : decode prog_21_method_1_code 37 = .ok (.return_, 1) := by decide +kernel
theorem pn1 : plainFor (⟨"com/example/muster/muster/role/RoleRelation", "<init>", "(Ljava/lang/String;Ljava/lang/String;ZLjava/lang/String;II)V"⟩ : MethodName) = true := by first | exact plainFor_of_name (by first | (simp [plainName, overriddenIn]; done) | decide +kernel) | decide +kernel
theorem ef1 (m : MethodId) (a1 : Addr) (r1 : Value) (r2 : Value) (np : Int32) (el : Addr) (ln : Int32) (co : Int32) (hr_r1 : r1.isRef = true) (hr_r2 : r2.isRef = true) : entryFrame m #[(.ref a1), r1, r2, (.int np), (.ref el), (.int ln), (.int co)] 7 = mkF m 0 #[.val (.ref a1), .val r1, .val r2, .val (.int np), .val (.ref el), .val (.int ln), .val (.int co)] [] := by rcases ref_cases hr_r1 with rfl | ⟨z_r1, rfl⟩ <;> rcases ref_cases hr_r2 with rfl | ⟨z_r2, rfl⟩ <;> first | (simp [entryFrame, mkF, argsToLocals, Value.category]; done) | rfl
def Q1 (Z : State) (a1 : Addr) (r1 : Value) (r2 : Value) (np : Int32) (el : Addr) (ln : Int32) (co : Int32) (h0 : Heap) (n0 : Nat) (v : Option Value) (h : Heap) (L : List Loc) : Prop := v = none ∧ Fr n0 L ∧ Keep h0 h [a1] ∧ Fld Z h a1 "com/example/muster/muster/role/RoleRelation" "roleId" "Ljava/lang/String;" r1 ∧ Fld Z h a1 "com/example/muster/muster/role/RoleRelation" "namedId" "Ljava/lang/String;" r2 ∧ Fld Z h a1 "com/example/muster/muster/role/RoleRelation" "namesParent" "Z" (.int np)
set_option maxRecDepth 65536 in
set_option maxHeartbeats 40000000 in
theorem rm1 (l : Launch) (Z : State) (a0 : Array Value) (hw : ∀ d ∈ tables_1, d.before a0 Z = true) (ws : List Jvm.Cond) (a1 : Addr) (r1 : Value) (r2 : Value) (np : Int32) (el : Addr) (ln : Int32) (co : Int32) (h0 : Heap) (n0 : Nat) (Z0 : n0 ≤ h0.size) (hr_r1 : r1.isRef = true) (hr_r2 : r2.isRef = true) (A_a : Exa Z h0 a1 "com/example/muster/muster/role/RoleRelation") (F_roleId : Fld Z h0 a1 "com/example/muster/muster/role/RoleRelation" "roleId" "Ljava/lang/String;" (.null)) (F_namedId : Fld Z h0 a1 "com/example/muster/muster/role/RoleRelation" "namedId" "Ljava/lang/String;" (.null)) (F_namesParent : Fld Z h0 a1 "com/example/muster/muster/role/RoleRelation" "namesParent" "Z" (.int (0 : Int32))) (F_element : Fld Z h0 a1 "com/example/muster/muster/role/RoleRelation" "element" "Ljava/lang/String;" (.null)) (F_line : Fld Z h0 a1 "com/example/muster/muster/role/RoleRelation" "line" "I" (.int (0 : Int32))) (F_column : Fld Z h0 a1 "com/example/muster/muster/role/RoleRelation" "column" "I" (.int (0 : Int32))) (ga : n0 ≤ a1) (nrp : narrow .boolean (.int np) = .int np) (ftp : fits .boolean (.int np) = true) :
    MetFree l (⟨"com/example/muster/muster/role/RoleRelation", "<init>", "(Ljava/lang/String;Ljava/lang/String;ZLjava/lang/String;II)V"⟩ : MethodName) (head1 (Jvm.Cond.code (⟨"com/example/muster/muster/role/RoleRelation", "<init>", "(Ljava/lang/String;Ljava/lang/String;ZLjava/lang/String;II)V"⟩ : MethodName) prog_21_method_1_code 7 none :: ws) ({ frames := 1, cells := 0, slots := 0, locals := 12 } : Room)) (fun a U => a = #[(.ref a1), r1, r2, (.int np), (.ref el), (.int ln), (.int co)] ∧ Z.Warmed39 U.vm ∧ U.heap = h0) (fun _ _ _ _ _ => True) (fun _ U o U' => ∃ v L, o = .returned v ∧ Q1 Z a1 r1 r2 np el ln co h0 n0 v U'.heap L ∧ FrameEnd U o U' L ({ frames := 1, cells := 0, slots := 0, locals := 12 } : Room).cells ({ frames := 1, cells := 0, slots := 0, locals := 12 } : Room).slots) := by
  refine MetFree.of_bodySF pn1 hisR ?_
  intro p e s m args below meth c s₁ Bd hml0 hP hK
  obtain ⟨rfl, hZ, hh⟩ := hP
  have hx := Bd.exec
  have hby := Bd.bytes
  have hlk : meth.locks = false := BodyLoose.notSynchronized Bd
  have hml : c.maxLocals = 7 := hml0
  have hown : s.vm.findClass "com/example/muster/muster/role/RoleRelation" = some m.cls := findClass_of_methodNamed Bd.named
  have hnm := (name_of_methodNamed Bd.named Bd.method).1
  have X0 : Stand p l e ({ frames := 1, cells := 0, slots := 0, locals := 12 } : Room) s m #[(.ref a1), r1, r2, (.int np), (.ref el), (.int ln), (.int co)] below meth c s₁ [] 0 0 := Stand.of_body Bd
  have e0 : s₁.heap = h0 := by rw [← hh, Bd.state]; rfl
  have N0 := Fr.nil n0
  have K0 : Keep h0 h0 [a1] := Keep.refl _ _
  rw [ef1 m a1 r1 r2 np el ln co hr_r1 hr_r2]
  show own_Go p e below (own_End s (Q1 Z a1 r1 r2 np el ln co h0 n0) ({ frames := 1, cells := 0, slots := 0, locals := 12 } : Room).cells ({ frames := 1, cells := 0, slots := 0, locals := 12 } : Room).slots) s₁ (mkF m 0 #[.val (.ref a1), .val r1, .val r2, .val (.int np), .val (.ref el), .val (.int ln), .val (.int co)] [])
  refine own_aloadN X0 hx (hb hby d1_0) (pc' := 1) rfl rfl rfl ?_
  obtain ⟨T_1, X_1, e_1, st_1⟩ := initO X0 hx hZ hown (hw _ (List.mem_of_getElem? (i := 39) rfl)) (hw _ (List.mem_of_getElem? (i := 12) rfl)) (hw _ (List.mem_of_getElem? (i := 13) rfl)) e0 (g := (mkF m 1 #[.val (.ref a1), .val r1, .val r2, .val (.int np), .val (.ref el), .val (.int ln), .val (.int co)] [(.ref a1)])) rfl (by rw [hml]; rfl) rfl (hb hby d1_1) (by decide) (W := 0) (by show 2 * 0 + _ ≤ _; exact Nat.le_of_eq rfl) (by decide)
  refine own_st st_1 ?_
  show own_Go p e below _ T_1 (mkF m 4 #[.val (.ref a1), .val r1, .val r2, .val (.int np), .val (.ref el), .val (.int ln), .val (.int co)] [])
  refine own_aloadN X_1 hx (hb hby d1_4) (pc' := 5) rfl rfl rfl ?_
  refine own_aloadN X_1 hx (hb hby d1_5) (pc' := 6) rfl rfl hr_r1 ?_
  obtain ⟨T_2, h_2, X_2, e_2, W_2, st_2⟩ := putF X_1 hx hZ hown (host := "") (Or.inl (hw _ (List.mem_of_getElem? (i := 40) rfl))) Via.refl e_1 F_roleId A_a (Or.inr ⟨(hw _ (List.mem_of_getElem? (i := 41) rfl)), rfl, hnm⟩) (hw _ (List.mem_of_getElem? (i := 34) rfl)) (ty := (.object "java/lang/String")) (by decide) (own_narR rfl hr_r1) (own_fitR hr_r1) (g := (mkF m 6 #[.val (.ref a1), .val r1, .val r2, .val (.int np), .val (.ref el), .val (.int ln), .val (.int co)] [r1, (.ref a1)])) rfl rfl (hb hby d1_6)
  have F_3 : Fld Z h_2 a1 "com/example/muster/muster/role/RoleRelation" "roleId" "Ljava/lang/String;" r1 := F_roleId.same W_2
  have A_5 : Exa Z h_2 a1 "com/example/muster/muster/role/RoleRelation" := A_a.wr W_2
  have F_6 : Fld Z h_2 a1 "com/example/muster/muster/role/RoleRelation" "namedId" "Ljava/lang/String;" (.null) := F_namedId.other W_2 (Or.inr (RoadKit.slot_ne (Or.inr (hw _ (List.mem_of_getElem? (i := 43) rfl))) (Or.inr (hw _ (List.mem_of_getElem? (i := 41) rfl))) (by decide) (t := (.object "java/lang/String")) (t' := (.object "java/lang/String")) (by decide) (by decide)))
  have F_7 : Fld Z h_2 a1 "com/example/muster/muster/role/RoleRelation" "namesParent" "Z" (.int (0 : Int32)) := F_namesParent.other W_2 (Or.inr (RoadKit.slot_ne (Or.inr (hw _ (List.mem_of_getElem? (i := 45) rfl))) (Or.inr (hw _ (List.mem_of_getElem? (i := 41) rfl))) (by decide) (t := .boolean) (t' := (.object "java/lang/String")) (by decide) (by decide)))
  have F_8 : Fld Z h_2 a1 "com/example/muster/muster/role/RoleRelation" "element" "Ljava/lang/String;" (.null) := F_element.other W_2 (Or.inr (RoadKit.slot_ne (Or.inr (hw _ (List.mem_of_getElem? (i := 47) rfl))) (Or.inr (hw _ (List.mem_of_getElem? (i := 41) rfl))) (by decide) (t := (.object "java/lang/String")) (t' := (.object "java/lang/String")) (by decide) (by decide)))
  have F_9 : Fld Z h_2 a1 "com/example/muster/muster/role/RoleRelation" "line" "I" (.int (0 : Int32)) := F_line.other W_2 (Or.inr (RoadKit.slot_ne (Or.inr (hw _ (List.mem_of_getElem? (i := 49) rfl))) (Or.inr (hw _ (List.mem_of_getElem? (i := 41) rfl))) (by decide) (t := .int) (t' := (.object "java/lang/String")) (by decide) (by decide)))
  have F_10 : Fld Z h_2 a1 "com/example/muster/muster/role/RoleRelation" "column" "I" (.int (0 : Int32)) := F_column.other W_2 (Or.inr (RoadKit.slot_ne (Or.inr (hw _ (List.mem_of_getElem? (i := 51) rfl))) (Or.inr (hw _ (List.mem_of_getElem? (i := 41) rfl))) (by decide) (t := .int) (t' := (.object "java/lang/String")) (by decide) (by decide)))
  have Z_4 : n0 ≤ h_2.size := by rw [W_2.size]; exact Z0
  have K_4 : Keep h0 h_2 [a1] := K0.wr W_2 (Or.inl (List.mem_of_getElem? (i := 0) rfl))
  have N_2 := Fr.snoc X_2 N0 ga
  refine own_st st_2 ?_
  show own_Go p e below _ T_2 (mkF m 9 #[.val (.ref a1), .val r1, .val r2, .val (.int np), .val (.ref el), .val (.int ln), .val (.int co)] [])
  refine own_aloadN X_2 hx (hb hby d1_9) (pc' := 10) rfl rfl rfl ?_
  refine own_aloadN X_2 hx (hb hby d1_10) (pc' := 11) rfl rfl hr_r2 ?_
  obtain ⟨T_11, h_11, X_11, e_11, W_11, st_11⟩ := putF X_2 hx hZ hown (host := "") (Or.inl (hw _ (List.mem_of_getElem? (i := 42) rfl))) Via.refl e_2 F_6 A_5 (Or.inr ⟨(hw _ (List.mem_of_getElem? (i := 43) rfl)), rfl, hnm⟩) (hw _ (List.mem_of_getElem? (i := 34) rfl)) (ty := (.object "java/lang/String")) (by decide) (own_narR rfl hr_r2) (own_fitR hr_r2) (g := (mkF m 11 #[.val (.ref a1), .val r1, .val r2, .val (.int np), .val (.ref el), .val (.int ln), .val (.int co)] [r2, (.ref a1)])) rfl rfl (hb hby d1_11)
  have F_12 : Fld Z h_11 a1 "com/example/muster/muster/role/RoleRelation" "namedId" "Ljava/lang/String;" r2 := F_6.same W_11
  have F_14 : Fld Z h_11 a1 "com/example/muster/muster/role/RoleRelation" "roleId" "Ljava/lang/String;" r1 := F_3.other W_11 (Or.inr (RoadKit.slot_ne (Or.inr (hw _ (List.mem_of_getElem? (i := 41) rfl))) (Or.inr (hw _ (List.mem_of_getElem? (i := 43) rfl))) (by decide) (t := (.object "java/lang/String")) (t' := (.object "java/lang/String")) (by decide) (by decide)))
  have A_15 : Exa Z h_11 a1 "com/example/muster/muster/role/RoleRelation" := A_5.wr W_11
  have F_16 : Fld Z h_11 a1 "com/example/muster/muster/role/RoleRelation" "namesParent" "Z" (.int (0 : Int32)) := F_7.other W_11 (Or.inr (RoadKit.slot_ne (Or.inr (hw _ (List.mem_of_getElem? (i := 45) rfl))) (Or.inr (hw _ (List.mem_of_getElem? (i := 43) rfl))) (by decide) (t := .boolean) (t' := (.object "java/lang/String")) (by decide) (by decide)))
  have F_17 : Fld Z h_11 a1 "com/example/muster/muster/role/RoleRelation" "element" "Ljava/lang/String;" (.null) := F_8.other W_11 (Or.inr (RoadKit.slot_ne (Or.inr (hw _ (List.mem_of_getElem? (i := 47) rfl))) (Or.inr (hw _ (List.mem_of_getElem? (i := 43) rfl))) (by decide) (t := (.object "java/lang/String")) (t' := (.object "java/lang/String")) (by decide) (by decide)))
  have F_18 : Fld Z h_11 a1 "com/example/muster/muster/role/RoleRelation" "line" "I" (.int (0 : Int32)) := F_9.other W_11 (Or.inr (RoadKit.slot_ne (Or.inr (hw _ (List.mem_of_getElem? (i := 49) rfl))) (Or.inr (hw _ (List.mem_of_getElem? (i := 43) rfl))) (by decide) (t := .int) (t' := (.object "java/lang/String")) (by decide) (by decide)))
  have F_19 : Fld Z h_11 a1 "com/example/muster/muster/role/RoleRelation" "column" "I" (.int (0 : Int32)) := F_10.other W_11 (Or.inr (RoadKit.slot_ne (Or.inr (hw _ (List.mem_of_getElem? (i := 51) rfl))) (Or.inr (hw _ (List.mem_of_getElem? (i := 43) rfl))) (by decide) (t := .int) (t' := (.object "java/lang/String")) (by decide) (by decide)))
  have Z_13 : n0 ≤ h_11.size := by rw [W_11.size]; exact Z_4
  have K_13 : Keep h0 h_11 [a1] := K_4.wr W_11 (Or.inl (List.mem_of_getElem? (i := 0) rfl))
  have N_11 := Fr.snoc X_11 N_2 ga
  refine own_st st_11 ?_
  show own_Go p e below _ T_11 (mkF m 14 #[.val (.ref a1), .val r1, .val r2, .val (.int np), .val (.ref el), .val (.int ln), .val (.int co)] [])
  refine own_aloadN X_11 hx (hb hby d1_14) (pc' := 15) rfl rfl rfl ?_
  refine own_iloadN X_11 hx (hb hby d1_15) (pc' := 16) rfl rfl ?_
  obtain ⟨T_20, h_20, X_20, e_20, W_20, st_20⟩ := putF X_11 hx hZ hown (host := "") (Or.inl (hw _ (List.mem_of_getElem? (i := 44) rfl))) Via.refl e_11 F_16 A_15 (Or.inr ⟨(hw _ (List.mem_of_getElem? (i := 45) rfl)), rfl, hnm⟩) (hw _ (List.mem_of_getElem? (i := 34) rfl)) (ty := .boolean) (by decide) nrp ftp (g := (mkF m 16 #[.val (.ref a1), .val r1, .val r2, .val (.int np), .val (.ref el), .val (.int ln), .val (.int co)] [(.int np), (.ref a1)])) rfl rfl (hb hby d1_16)
  have F_21 : Fld Z h_20 a1 "com/example/muster/muster/role/RoleRelation" "namesParent" "Z" (.int np) := F_16.same W_20
  have F_23 : Fld Z h_20 a1 "com/example/muster/muster/role/RoleRelation" "namedId" "Ljava/lang/String;" r2 := F_12.other W_20 (Or.inr (RoadKit.slot_ne (Or.inr (hw _ (List.mem_of_getElem? (i := 43) rfl))) (Or.inr (hw _ (List.mem_of_getElem? (i := 45) rfl))) (by decide) (t := (.object "java/lang/String")) (t' := .boolean) (by decide) (by decide)))
  have F_24 : Fld Z h_20 a1 "com/example/muster/muster/role/RoleRelation" "roleId" "Ljava/lang/String;" r1 := F_14.other W_20 (Or.inr (RoadKit.slot_ne (Or.inr (hw _ (List.mem_of_getElem? (i := 41) rfl))) (Or.inr (hw _ (List.mem_of_getElem? (i := 45) rfl))) (by decide) (t := (.object "java/lang/String")) (t' := .boolean) (by decide) (by decide)))
  have A_25 : Exa Z h_20 a1 "com/example/muster/muster/role/RoleRelation" := A_15.wr W_20
  have F_26 : Fld Z h_20 a1 "com/example/muster/muster/role/RoleRelation" "element" "Ljava/lang/String;" (.null) := F_17.other W_20 (Or.inr (RoadKit.slot_ne (Or.inr (hw _ (List.mem_of_getElem? (i := 47) rfl))) (Or.inr (hw _ (List.mem_of_getElem? (i := 45) rfl))) (by decide) (t := (.object "java/lang/String")) (t' := .boolean) (by decide) (by decide)))
  have F_27 : Fld Z h_20 a1 "com/example/muster/muster/role/RoleRelation" "line" "I" (.int (0 : Int32)) := F_18.other W_20 (Or.inr (RoadKit.slot_ne (Or.inr (hw _ (List.mem_of_getElem? (i := 49) rfl))) (Or.inr (hw _ (List.mem_of_getElem? (i := 45) rfl))) (by decide) (t := .int) (t' := .boolean) (by decide) (by decide)))
  have F_28 : Fld Z h_20 a1 "com/example/muster/muster/role/RoleRelation" "column" "I" (.int (0 : Int32)) := F_19.other W_20 (Or.inr (RoadKit.slot_ne (Or.inr (hw _ (List.mem_of_getElem? (i := 51) rfl))) (Or.inr (hw _ (List.mem_of_getElem? (i := 45) rfl))) (by decide) (t := .int) (t' := .boolean) (by decide) (by decide)))
  have Z_22 : n0 ≤ h_20.size := by rw [W_20.size]; exact Z_13
  have K_22 : Keep h0 h_20 [a1] := K_13.wr W_20 (Or.inl (List.mem_of_getElem? (i := 0) rfl))
  have N_20 := Fr.snoc X_20 N_11 ga
  refine own_st st_20 ?_
  show own_Go p e below _ T_20 (mkF m 19 #[.val (.ref a1), .val r1, .val r2, .val (.int np), .val (.ref el), .val (.int ln), .val (.int co)] [])
  refine own_aloadN X_20 hx (hb hby d1_19) (pc' := 20) rfl rfl rfl ?_
  refine own_aload X_20 hx (hb hby d1_20) (pc' := 22) rfl rfl rfl ?_
  obtain ⟨T_29, h_29, X_29, e_29, W_29, st_29⟩ := putF X_20 hx hZ hown (host := "") (Or.inl (hw _ (List.mem_of_getElem? (i := 46) rfl))) Via.refl e_20 F_26 A_25 (Or.inr ⟨(hw _ (List.mem_of_getElem? (i := 47) rfl)), rfl, hnm⟩) (hw _ (List.mem_of_getElem? (i := 34) rfl)) (ty := (.object "java/lang/String")) (by decide) rfl rfl (g := (mkF m 22 #[.val (.ref a1), .val r1, .val r2, .val (.int np), .val (.ref el), .val (.int ln), .val (.int co)] [(.ref el), (.ref a1)])) rfl rfl (hb hby d1_22)
  have F_30 : Fld Z h_29 a1 "com/example/muster/muster/role/RoleRelation" "element" "Ljava/lang/String;" (.ref el) := F_26.same W_29
  have F_32 : Fld Z h_29 a1 "com/example/muster/muster/role/RoleRelation" "namesParent" "Z" (.int np) := F_21.other W_29 (Or.inr (RoadKit.slot_ne (Or.inr (hw _ (List.mem_of_getElem? (i := 45) rfl))) (Or.inr (hw _ (List.mem_of_getElem? (i := 47) rfl))) (by decide) (t := .boolean) (t' := (.object "java/lang/String")) (by decide) (by decide)))
  have F_33 : Fld Z h_29 a1 "com/example/muster/muster/role/RoleRelation" "namedId" "Ljava/lang/String;" r2 := F_23.other W_29 (Or.inr (RoadKit.slot_ne (Or.inr (hw _ (List.mem_of_getElem? (i := 43) rfl))) (Or.inr (hw _ (List.mem_of_getElem? (i := 47) rfl))) (by decide) (t := (.object "java/lang/String")) (t' := (.object "java/lang/String")) (by decide) (by decide)))
  have F_34 : Fld Z h_29 a1 "com/example/muster/muster/role/RoleRelation" "roleId" "Ljava/lang/String;" r1 := F_24.other W_29 (Or.inr (RoadKit.slot_ne (Or.inr (hw _ (List.mem_of_getElem? (i := 41) rfl))) (Or.inr (hw _ (List.mem_of_getElem? (i := 47) rfl))) (by decide) (t := (.object "java/lang/String")) (t' := (.object "java/lang/String")) (by decide) (by decide)))
  have A_35 : Exa Z h_29 a1 "com/example/muster/muster/role/RoleRelation" := A_25.wr W_29
  have F_36 : Fld Z h_29 a1 "com/example/muster/muster/role/RoleRelation" "line" "I" (.int (0 : Int32)) := F_27.other W_29 (Or.inr (RoadKit.slot_ne (Or.inr (hw _ (List.mem_of_getElem? (i := 49) rfl))) (Or.inr (hw _ (List.mem_of_getElem? (i := 47) rfl))) (by decide) (t := .int) (t' := (.object "java/lang/String")) (by decide) (by decide)))
  have F_37 : Fld Z h_29 a1 "com/example/muster/muster/role/RoleRelation" "column" "I" (.int (0 : Int32)) := F_28.other W_29 (Or.inr (RoadKit.slot_ne (Or.inr (hw _ (List.mem_of_getElem? (i := 51) rfl))) (Or.inr (hw _ (List.mem_of_getElem? (i := 47) rfl))) (by decide) (t := .int) (t' := (.object "java/lang/String")) (by decide) (by decide)))
  have Z_31 : n0 ≤ h_29.size := by rw [W_29.size]; exact Z_22
  have K_31 : Keep h0 h_29 [a1] := K_22.wr W_29 (Or.inl (List.mem_of_getElem? (i := 0) rfl))
  have N_29 := Fr.snoc X_29 N_20 ga
  refine own_st st_29 ?_
  show own_Go p e below _ T_29 (mkF m 25 #[.val (.ref a1), .val r1, .val r2, .val (.int np), .val (.ref el), .val (.int ln), .val (.int co)] [])
  refine own_aloadN X_29 hx (hb hby d1_25) (pc' := 26) rfl rfl rfl ?_
  refine own_iload X_29 hx (hb hby d1_26) (pc' := 28) rfl rfl ?_
  obtain ⟨T_38, h_38, X_38, e_38, W_38, st_38⟩ := putF X_29 hx hZ hown (host := "") (Or.inl (hw _ (List.mem_of_getElem? (i := 48) rfl))) Via.refl e_29 F_36 A_35 (Or.inr ⟨(hw _ (List.mem_of_getElem? (i := 49) rfl)), rfl, hnm⟩) (hw _ (List.mem_of_getElem? (i := 34) rfl)) (ty := .int) (by decide) rfl rfl (g := (mkF m 28 #[.val (.ref a1), .val r1, .val r2, .val (.int np), .val (.ref el), .val (.int ln), .val (.int co)] [(.int ln), (.ref a1)])) rfl rfl (hb hby d1_28)
  have F_39 : Fld Z h_38 a1 "com/example/muster/muster/role/RoleRelation" "line" "I" (.int ln) := F_36.same W_38
  have F_41 : Fld Z h_38 a1 "com/example/muster/muster/role/RoleRelation" "element" "Ljava/lang/String;" (.ref el) := F_30.other W_38 (Or.inr (RoadKit.slot_ne (Or.inr (hw _ (List.mem_of_getElem? (i := 47) rfl))) (Or.inr (hw _ (List.mem_of_getElem? (i := 49) rfl))) (by decide) (t := (.object "java/lang/String")) (t' := .int) (by decide) (by decide)))
  have F_42 : Fld Z h_38 a1 "com/example/muster/muster/role/RoleRelation" "namesParent" "Z" (.int np) := F_32.other W_38 (Or.inr (RoadKit.slot_ne (Or.inr (hw _ (List.mem_of_getElem? (i := 45) rfl))) (Or.inr (hw _ (List.mem_of_getElem? (i := 49) rfl))) (by decide) (t := .boolean) (t' := .int) (by decide) (by decide)))
  have F_43 : Fld Z h_38 a1 "com/example/muster/muster/role/RoleRelation" "namedId" "Ljava/lang/String;" r2 := F_33.other W_38 (Or.inr (RoadKit.slot_ne (Or.inr (hw _ (List.mem_of_getElem? (i := 43) rfl))) (Or.inr (hw _ (List.mem_of_getElem? (i := 49) rfl))) (by decide) (t := (.object "java/lang/String")) (t' := .int) (by decide) (by decide)))
  have F_44 : Fld Z h_38 a1 "com/example/muster/muster/role/RoleRelation" "roleId" "Ljava/lang/String;" r1 := F_34.other W_38 (Or.inr (RoadKit.slot_ne (Or.inr (hw _ (List.mem_of_getElem? (i := 41) rfl))) (Or.inr (hw _ (List.mem_of_getElem? (i := 49) rfl))) (by decide) (t := (.object "java/lang/String")) (t' := .int) (by decide) (by decide)))
  have A_45 : Exa Z h_38 a1 "com/example/muster/muster/role/RoleRelation" := A_35.wr W_38
  have F_46 : Fld Z h_38 a1 "com/example/muster/muster/role/RoleRelation" "column" "I" (.int (0 : Int32)) := F_37.other W_38 (Or.inr (RoadKit.slot_ne (Or.inr (hw _ (List.mem_of_getElem? (i := 51) rfl))) (Or.inr (hw _ (List.mem_of_getElem? (i := 49) rfl))) (by decide) (t := .int) (t' := .int) (by decide) (by decide)))
  have Z_40 : n0 ≤ h_38.size := by rw [W_38.size]; exact Z_31
  have K_40 : Keep h0 h_38 [a1] := K_31.wr W_38 (Or.inl (List.mem_of_getElem? (i := 0) rfl))
  have N_38 := Fr.snoc X_38 N_29 ga
  refine own_st st_38 ?_
  show own_Go p e below _ T_38 (mkF m 31 #[.val (.ref a1), .val r1, .val r2, .val (.int np), .val (.ref el), .val (.int ln), .val (.int co)] [])
  refine own_aloadN X_38 hx (hb hby d1_31) (pc' := 32) rfl rfl rfl ?_
  refine own_iload X_38 hx (hb hby d1_32) (pc' := 34) rfl rfl ?_
  obtain ⟨T_47, h_47, X_47, e_47, W_47, st_47⟩ := putF X_38 hx hZ hown (host := "") (Or.inl (hw _ (List.mem_of_getElem? (i := 50) rfl))) Via.refl e_38 F_46 A_45 (Or.inr ⟨(hw _ (List.mem_of_getElem? (i := 51) rfl)), rfl, hnm⟩) (hw _ (List.mem_of_getElem? (i := 34) rfl)) (ty := .int) (by decide) rfl rfl (g := (mkF m 34 #[.val (.ref a1), .val r1, .val r2, .val (.int np), .val (.ref el), .val (.int ln), .val (.int co)] [(.int co), (.ref a1)])) rfl rfl (hb hby d1_34)
  have F_48 : Fld Z h_47 a1 "com/example/muster/muster/role/RoleRelation" "column" "I" (.int co) := F_46.same W_47
  have F_50 : Fld Z h_47 a1 "com/example/muster/muster/role/RoleRelation" "line" "I" (.int ln) := F_39.other W_47 (Or.inr (RoadKit.slot_ne (Or.inr (hw _ (List.mem_of_getElem? (i := 49) rfl))) (Or.inr (hw _ (List.mem_of_getElem? (i := 51) rfl))) (by decide) (t := .int) (t' := .int) (by decide) (by decide)))
  have F_51 : Fld Z h_47 a1 "com/example/muster/muster/role/RoleRelation" "element" "Ljava/lang/String;" (.ref el) := F_41.other W_47 (Or.inr (RoadKit.slot_ne (Or.inr (hw _ (List.mem_of_getElem? (i := 47) rfl))) (Or.inr (hw _ (List.mem_of_getElem? (i := 51) rfl))) (by decide) (t := (.object "java/lang/String")) (t' := .int) (by decide) (by decide)))
  have F_52 : Fld Z h_47 a1 "com/example/muster/muster/role/RoleRelation" "namesParent" "Z" (.int np) := F_42.other W_47 (Or.inr (RoadKit.slot_ne (Or.inr (hw _ (List.mem_of_getElem? (i := 45) rfl))) (Or.inr (hw _ (List.mem_of_getElem? (i := 51) rfl))) (by decide) (t := .boolean) (t' := .int) (by decide) (by decide)))
  have F_53 : Fld Z h_47 a1 "com/example/muster/muster/role/RoleRelation" "namedId" "Ljava/lang/String;" r2 := F_43.other W_47 (Or.inr (RoadKit.slot_ne (Or.inr (hw _ (List.mem_of_getElem? (i := 43) rfl))) (Or.inr (hw _ (List.mem_of_getElem? (i := 51) rfl))) (by decide) (t := (.object "java/lang/String")) (t' := .int) (by decide) (by decide)))
  have F_54 : Fld Z h_47 a1 "com/example/muster/muster/role/RoleRelation" "roleId" "Ljava/lang/String;" r1 := F_44.other W_47 (Or.inr (RoadKit.slot_ne (Or.inr (hw _ (List.mem_of_getElem? (i := 41) rfl))) (Or.inr (hw _ (List.mem_of_getElem? (i := 51) rfl))) (by decide) (t := (.object "java/lang/String")) (t' := .int) (by decide) (by decide)))
  have A_55 : Exa Z h_47 a1 "com/example/muster/muster/role/RoleRelation" := A_45.wr W_47
  have Z_49 : n0 ≤ h_47.size := by rw [W_47.size]; exact Z_40
  have K_49 : Keep h0 h_47 [a1] := K_40.wr W_47 (Or.inl (List.mem_of_getElem? (i := 0) rfl))
  have N_47 := Fr.snoc X_47 N_38 ga
  refine own_st st_47 ?_
  show own_Go p e below _ T_47 (mkF m 37 #[.val (.ref a1), .val r1, .val r2, .val (.int np), .val (.ref el), .val (.int ln), .val (.int co)] [])
  refine own_retV X_47 hx hlk Bd.returns (hb hby d1_37) (by decide) (by decide) ?_
  rw [e_47]
  exact ⟨rfl, N_47, K_49, F_54, F_53, F_52⟩
theorem d2_0 : decode prog_21_method_5_code 0 = .ok (.aload_n 0, 1) := by decide +kernel
theorem d2_1 : decode prog_21_method_5_code 1 = .ok (.getfield 16, 3) := by decide +kernel
theorem d2_4 : decode prog_21_method_5_code 4 = .ok (.ifCond .eq 10, 3) := by decide +kernel
theorem d2_14 : decode prog_21_method_5_code 14 = .ok (.aload_n 0, 1) := by decide +kernel
theorem d2_15 : decode prog_21_method_5_code 15 = .ok (.getfield 7, 3) := by decide +kernel
theorem d2_18 : decode prog_21_method_5_code 18 = .ok (.areturn, 1) := by decide +kernel
theorem d2_7 : decode prog_21_method_5_code 7 = .ok (.aload_n 0, 1) := by decide +kernel
theorem d2_8 : decode prog_21_method_5_code 8 = .ok (.getfield 13, 3) := by decide +kernel
theorem d2_11 : decode prog_21_method_5_code 11 = .ok (.goto 7, 3) := by decide +kernel
theorem pn2 : plainFor (⟨"com/example/muster/muster/role/RoleRelation", "getParentId", "()Ljava/lang/String;"⟩ : MethodName) = true := by first | exact plainFor_of_name (by first | (simp [plainName, overriddenIn]; done) | decide +kernel) | decide +kernel
theorem ef2 (m : MethodId) (a1 : Addr) : entryFrame m #[(.ref a1)] 1 = mkF m 0 #[.val (.ref a1)] [] := by first | (simp [entryFrame, mkF, argsToLocals, Value.category]; done) | rfl
def Q2 (Z : State) (a1 : Addr) (r1 : Value) (r2 : Value) (np : Int32) (h0 : Heap) (n0 : Nat) (v : Option Value) (h : Heap) (L : List Loc) : Prop := v = some (if np = 0 then r1 else r2) ∧ Fr n0 L ∧ h = h0
set_option maxRecDepth 65536 in
set_option maxHeartbeats 40000000 in
theorem rm2 (l : Launch) (Z : State) (a0 : Array Value) (hw : ∀ d ∈ tables_1, d.before a0 Z = true) (ws : List Jvm.Cond) (a1 : Addr) (r1 : Value) (r2 : Value) (np : Int32) (h0 : Heap) (n0 : Nat) (Z0 : n0 ≤ h0.size) (F_1 : Fld Z h0 a1 "com/example/muster/muster/role/RoleRelation" "roleId" "Ljava/lang/String;" r1) (F_2 : Fld Z h0 a1 "com/example/muster/muster/role/RoleRelation" "namedId" "Ljava/lang/String;" r2) (F_3 : Fld Z h0 a1 "com/example/muster/muster/role/RoleRelation" "namesParent" "Z" (.int np)) (hrr1 : r1.isRef = true) (hrr2 : r2.isRef = true) :
    MetFree l (⟨"com/example/muster/muster/role/RoleRelation", "getParentId", "()Ljava/lang/String;"⟩ : MethodName) (head1 (Jvm.Cond.code (⟨"com/example/muster/muster/role/RoleRelation", "getParentId", "()Ljava/lang/String;"⟩ : MethodName) prog_21_method_5_code 1 (some (.object "java/lang/String")) :: ws) ({ frames := 0, cells := 0, slots := 0, locals := 0 } : Room)) (fun a U => a = #[(.ref a1)] ∧ Z.Warmed39 U.vm ∧ U.heap = h0) (fun _ _ _ _ _ => True) (fun _ U o U' => ∃ v L, o = .returned v ∧ Q2 Z a1 r1 r2 np h0 n0 v U'.heap L ∧ FrameEnd U o U' L ({ frames := 0, cells := 0, slots := 0, locals := 0 } : Room).cells ({ frames := 0, cells := 0, slots := 0, locals := 0 } : Room).slots) := by
  refine MetFree.of_bodySF pn2 hisR ?_
  intro p e s m args below meth c s₁ Bd hml0 hP hK
  obtain ⟨rfl, hZ, hh⟩ := hP
  have hx := Bd.exec
  have hby := Bd.bytes
  have hlk : meth.locks = false := BodyLoose.notSynchronized Bd
  have hml : c.maxLocals = 1 := hml0
  have hown : s.vm.findClass "com/example/muster/muster/role/RoleRelation" = some m.cls := findClass_of_methodNamed Bd.named
  have hnm := (name_of_methodNamed Bd.named Bd.method).1
  have X0 : Stand p l e ({ frames := 0, cells := 0, slots := 0, locals := 0 } : Room) s m #[(.ref a1)] below meth c s₁ [] 0 0 := Stand.of_body Bd
  have e0 : s₁.heap = h0 := by rw [← hh, Bd.state]; rfl
  have N0 := Fr.nil n0
  rw [ef2 m a1]
  show own_Go p e below (own_End s (Q2 Z a1 r1 r2 np h0 n0) ({ frames := 0, cells := 0, slots := 0, locals := 0 } : Room).cells ({ frames := 0, cells := 0, slots := 0, locals := 0 } : Room).slots) s₁ (mkF m 0 #[.val (.ref a1)] [])
  refine own_aloadN X0 hx (hb hby d2_0) (pc' := 1) rfl rfl rfl ?_
  obtain ⟨T_1, X_1, e_1, st_1⟩ := getF X0 hx hZ hown (host := "") (Or.inl (hw _ (List.mem_of_getElem? (i := 44) rfl))) Via.refl e0 F_3 (g := (mkF m 1 #[.val (.ref a1)] [(.ref a1)])) rfl rfl (hb hby d2_1)
  refine own_st st_1 ?_
  show own_Go p e below _ T_1 (mkF m 4 #[.val (.ref a1)] [(.int np)])
  by_cases c_2 : np = (0 : Int32)
  · skip
    refine own_ifY X_1 hx (hb hby d2_4) (XT.i0_eq_t c_2) (pc' := 14) (by decide) (by decide) ?_
    refine own_aloadN X_1 hx (hb hby d2_14) (pc' := 15) rfl rfl rfl ?_
    obtain ⟨T_3, X_3, e_3, st_3⟩ := getF X_1 hx hZ hown (host := "") (Or.inl (hw _ (List.mem_of_getElem? (i := 40) rfl))) Via.refl e_1 F_1 (g := (mkF m 15 #[.val (.ref a1)] [(.ref a1)])) rfl rfl (hb hby d2_15)
    refine own_st st_3 ?_
    show own_Go p e below _ T_3 (mkF m 18 #[.val (.ref a1)] [r1])
    refine own_retA X_3 hx hlk Bd.returns rfl hrr1 (hb hby d2_18) (by decide) (by decide) ?_
    rw [e_3]
    exact ⟨by simp [c_2], N0, rfl⟩
  · skip
    refine own_ifN X_1 hx (hb hby d2_4) (XT.i0_eq_f c_2) (pc' := 7) rfl ?_
    refine own_aloadN X_1 hx (hb hby d2_7) (pc' := 8) rfl rfl rfl ?_
    obtain ⟨T_4, X_4, e_4, st_4⟩ := getF X_1 hx hZ hown (host := "") (Or.inl (hw _ (List.mem_of_getElem? (i := 42) rfl))) Via.refl e_1 F_2 (g := (mkF m 8 #[.val (.ref a1)] [(.ref a1)])) rfl rfl (hb hby d2_8)
    refine own_st st_4 ?_
    show own_Go p e below _ T_4 (mkF m 11 #[.val (.ref a1)] [r2])
    refine own_goto X_4 hx (hb hby d2_11) (pc' := 18) (by decide) (by decide) ?_
    refine own_retA X_4 hx hlk Bd.returns rfl hrr2 (hb hby d2_18) (by decide) (by decide) ?_
    rw [e_4]
    exact ⟨by simp [c_2], N0, rfl⟩
theorem d3_0 : decode prog_21_method_6_code 0 = .ok (.aload_n 0, 1) := by decide +kernel
theorem d3_1 : decode prog_21_method_6_code 1 = .ok (.getfield 16, 3) := by decide +kernel
theorem d3_4 : decode prog_21_method_6_code 4 = .ok (.ifCond .eq 10, 3) := by decide +kernel
theorem d3_14 : decode prog_21_method_6_code 14 = .ok (.aload_n 0, 1) := by decide +kernel
theorem d3_15 : decode prog_21_method_6_code 15 = .ok (.getfield 13, 3) := by decide +kernel
theorem d3_18 : decode prog_21_method_6_code 18 = .ok (.areturn, 1) := by decide +kernel
theorem d3_7 : decode prog_21_method_6_code 7 = .ok (.aload_n 0, 1) := by decide +kernel
theorem d3_8 : decode prog_21_method_6_code 8 = .ok (.getfield 7, 3) := by decide +kernel
theorem d3_11 : decode prog_21_method_6_code 11 = .ok (.goto 7, 3) := by decide +kernel
theorem pn3 : plainFor (⟨"com/example/muster/muster/role/RoleRelation", "getChildId", "()Ljava/lang/String;"⟩ : MethodName) = true := by first | exact plainFor_of_name (by first | (simp [plainName, overriddenIn]; done) | decide +kernel) | decide +kernel
theorem ef3 (m : MethodId) (a1 : Addr) : entryFrame m #[(.ref a1)] 1 = mkF m 0 #[.val (.ref a1)] [] := by first | (simp [entryFrame, mkF, argsToLocals, Value.category]; done) | rfl
def Q3 (Z : State) (a1 : Addr) (r1 : Value) (r2 : Value) (np : Int32) (h0 : Heap) (n0 : Nat) (v : Option Value) (h : Heap) (L : List Loc) : Prop := v = some (if np = 0 then r2 else r1) ∧ Fr n0 L ∧ h = h0
set_option maxRecDepth 65536 in
set_option maxHeartbeats 40000000 in
theorem rm3 (l : Launch) (Z : State) (a0 : Array Value) (hw : ∀ d ∈ tables_1, d.before a0 Z = true) (ws : List Jvm.Cond) (a1 : Addr) (r1 : Value) (r2 : Value) (np : Int32) (h0 : Heap) (n0 : Nat) (Z0 : n0 ≤ h0.size) (F_1 : Fld Z h0 a1 "com/example/muster/muster/role/RoleRelation" "roleId" "Ljava/lang/String;" r1) (F_2 : Fld Z h0 a1 "com/example/muster/muster/role/RoleRelation" "namedId" "Ljava/lang/String;" r2) (F_3 : Fld Z h0 a1 "com/example/muster/muster/role/RoleRelation" "namesParent" "Z" (.int np)) (hrr1 : r1.isRef = true) (hrr2 : r2.isRef = true) :
    MetFree l (⟨"com/example/muster/muster/role/RoleRelation", "getChildId", "()Ljava/lang/String;"⟩ : MethodName) (head1 (Jvm.Cond.code (⟨"com/example/muster/muster/role/RoleRelation", "getChildId", "()Ljava/lang/String;"⟩ : MethodName) prog_21_method_6_code 1 (some (.object "java/lang/String")) :: ws) ({ frames := 0, cells := 0, slots := 0, locals := 0 } : Room)) (fun a U => a = #[(.ref a1)] ∧ Z.Warmed39 U.vm ∧ U.heap = h0) (fun _ _ _ _ _ => True) (fun _ U o U' => ∃ v L, o = .returned v ∧ Q3 Z a1 r1 r2 np h0 n0 v U'.heap L ∧ FrameEnd U o U' L ({ frames := 0, cells := 0, slots := 0, locals := 0 } : Room).cells ({ frames := 0, cells := 0, slots := 0, locals := 0 } : Room).slots) := by
  refine MetFree.of_bodySF pn3 hisR ?_
  intro p e s m args below meth c s₁ Bd hml0 hP hK
  obtain ⟨rfl, hZ, hh⟩ := hP
  have hx := Bd.exec
  have hby := Bd.bytes
  have hlk : meth.locks = false := BodyLoose.notSynchronized Bd
  have hml : c.maxLocals = 1 := hml0
  have hown : s.vm.findClass "com/example/muster/muster/role/RoleRelation" = some m.cls := findClass_of_methodNamed Bd.named
  have hnm := (name_of_methodNamed Bd.named Bd.method).1
  have X0 : Stand p l e ({ frames := 0, cells := 0, slots := 0, locals := 0 } : Room) s m #[(.ref a1)] below meth c s₁ [] 0 0 := Stand.of_body Bd
  have e0 : s₁.heap = h0 := by rw [← hh, Bd.state]; rfl
  have N0 := Fr.nil n0
  rw [ef3 m a1]
  show own_Go p e below (own_End s (Q3 Z a1 r1 r2 np h0 n0) ({ frames := 0, cells := 0, slots := 0, locals := 0 } : Room).cells ({ frames := 0, cells := 0, slots := 0, locals := 0 } : Room).slots) s₁ (mkF m 0 #[.val (.ref a1)] [])
  refine own_aloadN X0 hx (hb hby d3_0) (pc' := 1) rfl rfl rfl ?_
  obtain ⟨T_1, X_1, e_1, st_1⟩ := getF X0 hx hZ hown (host := "") (Or.inl (hw _ (List.mem_of_getElem? (i := 44) rfl))) Via.refl e0 F_3 (g := (mkF m 1 #[.val (.ref a1)] [(.ref a1)])) rfl rfl (hb hby d3_1)
  refine own_st st_1 ?_
  show own_Go p e below _ T_1 (mkF m 4 #[.val (.ref a1)] [(.int np)])
  by_cases c_2 : np = (0 : Int32)
  · skip
    refine own_ifY X_1 hx (hb hby d3_4) (XT.i0_eq_t c_2) (pc' := 14) (by decide) (by decide) ?_
    refine own_aloadN X_1 hx (hb hby d3_14) (pc' := 15) rfl rfl rfl ?_
    obtain ⟨T_3, X_3, e_3, st_3⟩ := getF X_1 hx hZ hown (host := "") (Or.inl (hw _ (List.mem_of_getElem? (i := 42) rfl))) Via.refl e_1 F_2 (g := (mkF m 15 #[.val (.ref a1)] [(.ref a1)])) rfl rfl (hb hby d3_15)
    refine own_st st_3 ?_
    show own_Go p e below _ T_3 (mkF m 18 #[.val (.ref a1)] [r2])
    refine own_retA X_3 hx hlk Bd.returns rfl hrr2 (hb hby d3_18) (by decide) (by decide) ?_
    rw [e_3]
    exact ⟨by simp [c_2], N0, rfl⟩
  · skip
    refine own_ifN X_1 hx (hb hby d3_4) (XT.i0_eq_f c_2) (pc' := 7) rfl ?_
    refine own_aloadN X_1 hx (hb hby d3_7) (pc' := 8) rfl rfl rfl ?_
    obtain ⟨T_4, X_4, e_4, st_4⟩ := getF X_1 hx hZ hown (host := "") (Or.inl (hw _ (List.mem_of_getElem? (i := 40) rfl))) Via.refl e_1 F_1 (g := (mkF m 8 #[.val (.ref a1)] [(.ref a1)])) rfl rfl (hb hby d3_8)
    refine own_st st_4 ?_
    show own_Go p e below _ T_4 (mkF m 11 #[.val (.ref a1)] [r1])
    refine own_goto X_4 hx (hb hby d3_11) (pc' := 18) (by decide) (by decide) ?_
    refine own_retA X_4 hx hlk Bd.returns rfl hrr1 (hb hby d3_18) (by decide) (by decide) ?_
    rw [e_4]
    exact ⟨by simp [c_2], N0, rfl⟩
theorem d4_0 : decode prog_21_method_2_code 0 = .ok (.aload_n 0, 1) := by decide +kernel
theorem d4_1 : decode prog_21_method_2_code 1 = .ok (.getfield 7, 3) := by decide +kernel
theorem d4_4 : decode prog_21_method_2_code 4 = .ok (.areturn, 1) := by decide +kernel
theorem pn4 : plainFor (⟨"com/example/muster/muster/role/RoleRelation", "getRoleId", "()Ljava/lang/String;"⟩ : MethodName) = true := by first | exact plainFor_of_name (by first | (simp [plainName, overriddenIn]; done) | decide +kernel) | decide +kernel
theorem ef4 (m : MethodId) (a1 : Addr) : entryFrame m #[(.ref a1)] 1 = mkF m 0 #[.val (.ref a1)] [] := by first | (simp [entryFrame, mkF, argsToLocals, Value.category]; done) | rfl
def Q4 (Z : State) (a1 : Addr) (r1 : Value) (h0 : Heap) (n0 : Nat) (v : Option Value) (h : Heap) (L : List Loc) : Prop := v = some r1 ∧ Fr n0 L ∧ h = h0
set_option maxRecDepth 65536 in
set_option maxHeartbeats 40000000 in
theorem rm4 (l : Launch) (Z : State) (a0 : Array Value) (hw : ∀ d ∈ tables_1, d.before a0 Z = true) (ws : List Jvm.Cond) (a1 : Addr) (r1 : Value) (h0 : Heap) (n0 : Nat) (Z0 : n0 ≤ h0.size) (F_a : Fld Z h0 a1 "com/example/muster/muster/role/RoleRelation" "roleId" "Ljava/lang/String;" r1) (hr_v : r1.isRef = true) :
    MetFree l (⟨"com/example/muster/muster/role/RoleRelation", "getRoleId", "()Ljava/lang/String;"⟩ : MethodName) (head1 (Jvm.Cond.code (⟨"com/example/muster/muster/role/RoleRelation", "getRoleId", "()Ljava/lang/String;"⟩ : MethodName) prog_21_method_2_code 1 (some (.object "java/lang/String")) :: ws) ({ frames := 0, cells := 0, slots := 0, locals := 0 } : Room)) (fun a U => a = #[(.ref a1)] ∧ Z.Warmed39 U.vm ∧ U.heap = h0) (fun _ _ _ _ _ => True) (fun _ U o U' => ∃ v L, o = .returned v ∧ Q4 Z a1 r1 h0 n0 v U'.heap L ∧ FrameEnd U o U' L ({ frames := 0, cells := 0, slots := 0, locals := 0 } : Room).cells ({ frames := 0, cells := 0, slots := 0, locals := 0 } : Room).slots) := by
  refine MetFree.of_bodySF pn4 hisR ?_
  intro p e s m args below meth c s₁ Bd hml0 hP hK
  obtain ⟨rfl, hZ, hh⟩ := hP
  have hx := Bd.exec
  have hby := Bd.bytes
  have hlk : meth.locks = false := BodyLoose.notSynchronized Bd
  have hml : c.maxLocals = 1 := hml0
  have hown : s.vm.findClass "com/example/muster/muster/role/RoleRelation" = some m.cls := findClass_of_methodNamed Bd.named
  have hnm := (name_of_methodNamed Bd.named Bd.method).1
  have X0 : Stand p l e ({ frames := 0, cells := 0, slots := 0, locals := 0 } : Room) s m #[(.ref a1)] below meth c s₁ [] 0 0 := Stand.of_body Bd
  have e0 : s₁.heap = h0 := by rw [← hh, Bd.state]; rfl
  have N0 := Fr.nil n0
  rw [ef4 m a1]
  show own_Go p e below (own_End s (Q4 Z a1 r1 h0 n0) ({ frames := 0, cells := 0, slots := 0, locals := 0 } : Room).cells ({ frames := 0, cells := 0, slots := 0, locals := 0 } : Room).slots) s₁ (mkF m 0 #[.val (.ref a1)] [])
  refine own_aloadN X0 hx (hb hby d4_0) (pc' := 1) rfl rfl rfl ?_
  obtain ⟨T_1, X_1, e_1, st_1⟩ := getF X0 hx hZ hown (host := "") (Or.inl (hw _ (List.mem_of_getElem? (i := 40) rfl))) Via.refl e0 F_a (g := (mkF m 1 #[.val (.ref a1)] [(.ref a1)])) rfl rfl (hb hby d4_1)
  refine own_st st_1 ?_
  show own_Go p e below _ T_1 (mkF m 4 #[.val (.ref a1)] [r1])
  refine own_retA X_1 hx hlk Bd.returns rfl hr_v (hb hby d4_4) (by decide) (by decide) ?_
  rw [e_1]
  exact ⟨rfl, N0, rfl⟩
theorem d5_0 : decode prog_21_method_3_code 0 = .ok (.aload_n 0, 1) := by decide +kernel
theorem d5_1 : decode prog_21_method_3_code 1 = .ok (.getfield 13, 3) := by decide +kernel
theorem d5_4 : decode prog_21_method_3_code 4 = .ok (.areturn, 1) := by decide +kernel
theorem pn5 : plainFor (⟨"com/example/muster/muster/role/RoleRelation", "getNamedId", "()Ljava/lang/String;"⟩ : MethodName) = true := by first | exact plainFor_of_name (by first | (simp [plainName, overriddenIn]; done) | decide +kernel) | decide +kernel
theorem ef5 (m : MethodId) (a1 : Addr) : entryFrame m #[(.ref a1)] 1 = mkF m 0 #[.val (.ref a1)] [] := by first | (simp [entryFrame, mkF, argsToLocals, Value.category]; done) | rfl
def Q5 (Z : State) (a1 : Addr) (r1 : Value) (h0 : Heap) (n0 : Nat) (v : Option Value) (h : Heap) (L : List Loc) : Prop := v = some r1 ∧ Fr n0 L ∧ h = h0
set_option maxRecDepth 65536 in
set_option maxHeartbeats 40000000 in
theorem rm5 (l : Launch) (Z : State) (a0 : Array Value) (hw : ∀ d ∈ tables_1, d.before a0 Z = true) (ws : List Jvm.Cond) (a1 : Addr) (r1 : Value) (h0 : Heap) (n0 : Nat) (Z0 : n0 ≤ h0.size) (F_a : Fld Z h0 a1 "com/example/muster/muster/role/RoleRelation" "namedId" "Ljava/lang/String;" r1) (hr_v : r1.isRef = true) :
    MetFree l (⟨"com/example/muster/muster/role/RoleRelation", "getNamedId", "()Ljava/lang/String;"⟩ : MethodName) (head1 (Jvm.Cond.code (⟨"com/example/muster/muster/role/RoleRelation", "getNamedId", "()Ljava/lang/String;"⟩ : MethodName) prog_21_method_3_code 1 (some (.object "java/lang/String")) :: ws) ({ frames := 0, cells := 0, slots := 0, locals := 0 } : Room)) (fun a U => a = #[(.ref a1)] ∧ Z.Warmed39 U.vm ∧ U.heap = h0) (fun _ _ _ _ _ => True) (fun _ U o U' => ∃ v L, o = .returned v ∧ Q5 Z a1 r1 h0 n0 v U'.heap L ∧ FrameEnd U o U' L ({ frames := 0, cells := 0, slots := 0, locals := 0 } : Room).cells ({ frames := 0, cells := 0, slots := 0, locals := 0 } : Room).slots) := by
  refine MetFree.of_bodySF pn5 hisR ?_
  intro p e s m args below meth c s₁ Bd hml0 hP hK
  obtain ⟨rfl, hZ, hh⟩ := hP
  have hx := Bd.exec
  have hby := Bd.bytes
  have hlk : meth.locks = false := BodyLoose.notSynchronized Bd
  have hml : c.maxLocals = 1 := hml0
  have hown : s.vm.findClass "com/example/muster/muster/role/RoleRelation" = some m.cls := findClass_of_methodNamed Bd.named
  have hnm := (name_of_methodNamed Bd.named Bd.method).1
  have X0 : Stand p l e ({ frames := 0, cells := 0, slots := 0, locals := 0 } : Room) s m #[(.ref a1)] below meth c s₁ [] 0 0 := Stand.of_body Bd
  have e0 : s₁.heap = h0 := by rw [← hh, Bd.state]; rfl
  have N0 := Fr.nil n0
  rw [ef5 m a1]
  show own_Go p e below (own_End s (Q5 Z a1 r1 h0 n0) ({ frames := 0, cells := 0, slots := 0, locals := 0 } : Room).cells ({ frames := 0, cells := 0, slots := 0, locals := 0 } : Room).slots) s₁ (mkF m 0 #[.val (.ref a1)] [])
  refine own_aloadN X0 hx (hb hby d5_0) (pc' := 1) rfl rfl rfl ?_
  obtain ⟨T_1, X_1, e_1, st_1⟩ := getF X0 hx hZ hown (host := "") (Or.inl (hw _ (List.mem_of_getElem? (i := 42) rfl))) Via.refl e0 F_a (g := (mkF m 1 #[.val (.ref a1)] [(.ref a1)])) rfl rfl (hb hby d5_1)
  refine own_st st_1 ?_
  show own_Go p e below _ T_1 (mkF m 4 #[.val (.ref a1)] [r1])
  refine own_retA X_1 hx hlk Bd.returns rfl hr_v (hb hby d5_4) (by decide) (by decide) ?_
  rw [e_1]
  exact ⟨rfl, N0, rfl⟩
theorem pd0_0 : parseMethodDescriptor "([C)V" = some ⟨[(.array .char)], none⟩ := by decide +kernel
theorem pd0_1 : parseMethodDescriptor "(Ljava/lang/String;Ljava/lang/String;ZLjava/lang/String;II)V" = some ⟨[(.object "java/lang/String"), (.object "java/lang/String"), .boolean, (.object "java/lang/String"), .int, .int], none⟩ := by decide +kernel
theorem pd0_2 : parseMethodDescriptor "()Ljava/lang/String;" = some ⟨[], some (.object "java/lang/String")⟩ := by decide +kernel
theorem pn0 : plainFor x = true := by first | exact plainFor_of_name (by first | (simp [plainName, overriddenIn]; done) | decide +kernel) | decide +kernel
theorem ef0 (m : MethodId) (x0 : Int32) (x1 : Int32) (x2 : Int32) (x3 : Int32) (x4 : Int32) : entryFrame m #[(.int x0), (.int x1), (.int x2), (.int x3), (.int x4)] maxLocals = mkF m 0 #[.val (.int x0), .val (.int x1), .val (.int x2), .val (.int x3), .val (.int x4), .unset, .unset, .unset, .unset, .unset, .unset, .unset, .unset, .unset] [] := by first | (simp [entryFrame, mkF, argsToLocals, Value.category, maxLocals]; done) | rfl
def Q0 (Z : State) (x0 : Int32) (x1 : Int32) (x2 : Int32) (x3 : Int32) (x4 : Int32) (cz : Int32) (h0 : Heap) (n0 : Nat) (v : Option Value) (h : Heap) (L : List Loc) : Prop := v = some (.int 1) ∧ Fr n0 L
set_option maxRecDepth 65536 in
set_option maxHeartbeats 40000000 in
theorem rm0 (l : Launch) (Z : State) (a0 : Array Value) (hw : ∀ d ∈ tables_1, d.before a0 Z = true) (ws : List Jvm.Cond) (x0 : Int32) (x1 : Int32) (x2 : Int32) (x3 : Int32) (x4 : Int32) (cz : Int32) (h0 : Heap) (n0 : Nat) (Z0 : n0 ≤ h0.size) (O_a : Old Z n0 h0) (Sz : Sta Z Z.heap "java/lang/String" "COMPACT_STRINGS" "Z" (.int cz)) (Pz : ¬ cz = 0) :
    MetFree l x (head1 (Jvm.Cond.code x code maxLocals ret :: ws) room_1) (fun a U => a = #[(.int x0), (.int x1), (.int x2), (.int x3), (.int x4)] ∧ Z.Warmed39 U.vm ∧ U.heap = h0) (fun _ _ _ _ _ => True) (fun _ U o U' => ∃ v L, o = .returned v ∧ Q0 Z x0 x1 x2 x3 x4 cz h0 n0 v U'.heap L ∧ ReturnedEndW U o U' L 9 68) := by
  refine MetFree.of_bodySF pn0 hisR ?_
  intro p e s m args below meth c s₁ Bd hml0 hP hK
  obtain ⟨rfl, hZ, hh⟩ := hP
  have hx := Bd.exec
  have hby := Bd.bytes
  have hlk : meth.locks = false := BodyLoose.notSynchronized Bd
  have hml : c.maxLocals = 14 := hml0
  have hown : s.vm.findClass "com/example/muster/muster/role/RoleRelationGetChildIdPinLaw" = some m.cls := findClass_of_methodNamed Bd.named
  have hnm := (name_of_methodNamed Bd.named Bd.method).1
  have X0 : Stand p l e room_1 s m #[(.int x0), (.int x1), (.int x2), (.int x3), (.int x4)] below meth c s₁ [] 0 0 := Stand.of_body Bd
  have e0 : s₁.heap = h0 := by rw [← hh, Bd.state]; rfl
  have hS : s.Since s.vm h0.size := (State.WarmedH.refl s).since _
  have X0 : Stand p l e room_1 (s.setVm s.vm) m #[(.int x0), (.int x1), (.int x2), (.int x3), (.int x4)] below meth c s₁ [] 0 0 := X0
  have hZ : Z.Warmed39 (s.setVm s.vm).vm := hZ
  have hown : (s.setVm s.vm).vm.findClass "com/example/muster/muster/role/RoleRelationGetChildIdPinLaw" = some m.cls := hown
  have own_wS : ∀ a ∈ Bundle.stringAtoms, a.before a0 Z = true := fun a ha => hw a ((by decide +kernel : ∀ a ∈ Bundle.stringAtoms, a ∈ tables_1) a ha)
  have N0 := Fr.nil n0
  rw [ef0 m x0 x1 x2 x3 x4]
  show own_Go p e below (own_EndW s (Q0 Z x0 x1 x2 x3 x4 cz h0 n0) 9 68) s₁ (mkF m 0 #[.val (.int x0), .val (.int x1), .val (.int x2), .val (.int x3), .val (.int x4), .unset, .unset, .unset, .unset, .unset, .unset, .unset, .unset, .unset] [])
  refine own_iloadN X0 hx (hb hby at_0) (pc' := 1) rfl rfl ?_
  refine own_iconst X0 hx (1) (hb hby at_1) (pc' := 2) rfl rfl ?_
  refine own_iand X0 hx (hb hby at_2) (pc' := 3) rfl ?_
  by_cases c_1 : (x2 &&& (1 : Int32)) = (0 : Int32)
  · skip
    refine own_ifY X0 hx (hb hby at_3) (XT.i0_eq_t c_1) (pc' := 10) (by decide) (by decide) ?_
    refine own_iconst X0 hx (0) (hb hby at_10) (pc' := 11) rfl rfl ?_
    refine own_istore X0 hx (hb hby at_11) (pc' := 13) (Ls' := #[.val (.int x0), .val (.int x1), .val (.int x2), .val (.int x3), .val (.int x4), .val (.int (0 : Int32)), .unset, .unset, .unset, .unset, .unset, .unset, .unset, .unset]) rfl rfl ?_
    refine own_iloadN X0 hx (hb hby at_13) (pc' := 14) rfl rfl ?_
    refine own_iconst X0 hx (2) (hb hby at_14) (pc' := 15) rfl rfl ?_
    refine own_iand X0 hx (hb hby at_15) (pc' := 16) rfl ?_
    by_cases c_2 : (x2 &&& (2 : Int32)) = (0 : Int32)
    · skip
      refine own_ifY X0 hx (hb hby at_16) (XT.i0_eq_t c_2) (pc' := 23) (by decide) (by decide) ?_
      obtain ⟨T_3, h_3, X_3, e_3, E_3, A_3, D_3, -, st_3⟩ := newO X0 hx hZ hown (hw _ (List.mem_of_getElem? (i := 0) rfl)) (hw _ (List.mem_of_getElem? (i := 1) rfl)) (hw _ (List.mem_of_getElem? (i := 2) rfl)) e0 (g := (mkF m 23 #[.val (.int x0), .val (.int x1), .val (.int x2), .val (.int x3), .val (.int x4), .val (.int (0 : Int32)), .unset, .unset, .unset, .unset, .unset, .unset, .unset, .unset] [])) rfl (hb hby at_23) (by decide) (by decide)
      obtain ⟨a_3, g_3⟩ : ∃ z, z = h0.size := ⟨_, rfl⟩
      rw [← g_3] at A_3 D_3 st_3
      have ge_3 : n0 ≤ a_3 := Nat.le_trans Z0 (Nat.le_of_eq g_3.symm)
      have O_5 : Old Z n0 h_3 := O_a.ext E_3
      have Z_4 : n0 ≤ h_3.size := Nat.le_trans Z0 E_3.1
      have K1_4 := Nat.le_trans (Nat.le_refl _) E_3.1
      have F_6 : Fld Z h_3 a_3 "java/lang/String" "coder" "B" (.int (0 : Int32)) := D_3 (Or.inr (hw _ (List.mem_of_getElem? (i := 27) rfl))) (ty := .byte) (by decide)
      have F_7 : Fld Z h_3 a_3 "java/lang/String" "value" "[B" (.null) := D_3 (Or.inr (hw _ (List.mem_of_getElem? (i := 29) rfl))) (ty := (.array .byte)) (by decide)
      refine own_st st_3 ?_
      show own_Go p e below _ T_3 (mkF m 26 #[.val (.int x0), .val (.int x1), .val (.int x2), .val (.int x3), .val (.int x4), .val (.int (0 : Int32)), .unset, .unset, .unset, .unset, .unset, .unset, .unset, .unset] [(.ref a_3)])
      refine own_dup X_3 hx (hb hby at_26) (pc' := 27) rfl rfl ?_
      refine own_iconst X_3 hx (2) (hb hby at_27) (pc' := 28) rfl rfl ?_
      obtain ⟨T_8, h_8, kc_8, X_8, e_8, E_8, A_8, st_8⟩ := newP X_3 hx hZ (hw _ (List.mem_of_getElem? (i := 3) rfl)) e_3 (g := (mkF m 28 #[.val (.int x0), .val (.int x1), .val (.int x2), .val (.int x3), .val (.int x4), .val (.int (0 : Int32)), .unset, .unset, .unset, .unset, .unset, .unset, .unset, .unset] [(.int (2 : Int32)), (.ref a_3), (.ref a_3)])) rfl (hb hby at_28) rfl (by decide) (cap := 2) (by decide) (by decide) (by decide) (by decide)
      obtain ⟨a_8, g_8⟩ : ∃ z, z = h_3.size := ⟨_, rfl⟩
      rw [← g_8] at A_8 st_8
      have ge_8 : n0 ≤ a_8 := Nat.le_trans Z_4 (Nat.le_of_eq g_8.symm)
      have ne_8_a_3 : a_3 ≠ a_8 := Nat.ne_of_lt (Nat.lt_of_lt_of_eq A_3.lt g_8.symm)
      have O_10 : Old Z n0 h_8 := O_5.ext E_8
      have A_11 : Exa Z h_8 a_3 "java/lang/String" := A_3.ext E_8
      have F_12 : Fld Z h_8 a_3 "java/lang/String" "coder" "B" (.int (0 : Int32)) := F_6.ext E_8
      have F_13 : Fld Z h_8 a_3 "java/lang/String" "value" "[B" (.null) := F_7.ext E_8
      have Z_9 : n0 ≤ h_8.size := Nat.le_trans Z_4 E_8.1
      have K1_9 := Nat.le_trans K1_4 E_8.1
      have V_14 : Arv Z h_8 a_8 kc_8 .char (2 : Int32) [(.int (0 : Int32)), (.int (0 : Int32))] (.int (0 : Int32)) := (Arv.new A_8 (by decide)).pad (pad_rep [] (.int (0 : Int32)) 2)
      refine own_st st_8 ?_
      show own_Go p e below _ T_8 (mkF m 30 #[.val (.int x0), .val (.int x1), .val (.int x2), .val (.int x3), .val (.int x4), .val (.int (0 : Int32)), .unset, .unset, .unset, .unset, .unset, .unset, .unset, .unset] [(.ref a_8), (.ref a_3), (.ref a_3)])
      refine own_dup X_8 hx (hb hby at_30) (pc' := 31) rfl rfl ?_
      refine own_iconst X_8 hx (0) (hb hby at_31) (pc' := 32) rfl rfl ?_
      refine own_iloadN X_8 hx (hb hby at_32) (pc' := 33) rfl rfl ?_
      refine own_sipush X_8 hx (255) (hb hby at_33) (pc' := 36) rfl (by decide) ?_
      refine own_iand X_8 hx (hb hby at_36) (pc' := 37) rfl ?_
      refine own_i2c X_8 hx (hb hby at_37) (pc' := 38) rfl ?_
      obtain ⟨T_15, h_15, X_15, e_15, W_15, V_15, st_15⟩ := own_castore X_8 hx hZ e_8 V_14 0 (x := (nar .char (x0 &&& (255 : Int32)))) (j := (0 : Int32)) (Ls := #[.val (.int x0), .val (.int x1), .val (.int x2), .val (.int x3), .val (.int x4), .val (.int (0 : Int32)), .unset, .unset, .unset, .unset, .unset, .unset, .unset, .unset]) (st := [(.ref a_8), (.ref a_3), (.ref a_3)]) ⟨by decide, by decide⟩ rfl (Nat.le_of_ble_eq_true rfl) (hb hby at_38)
      have V_16 : Arv Z h_15 a_8 kc_8 .char (2 : Int32) [(.int (nar .char (nar .char (x0 &&& (255 : Int32))))), (.int (0 : Int32))] (.int (0 : Int32)) := V_15
      have O_18 : Old Z n0 h_15 := O_10.wr W_15 ge_8
      have A_19 : Exa Z h_15 a_3 "java/lang/String" := A_11.wr W_15
      have F_20 : Fld Z h_15 a_3 "java/lang/String" "coder" "B" (.int (0 : Int32)) := F_12.other W_15 (Or.inl ne_8_a_3)
      have F_21 : Fld Z h_15 a_3 "java/lang/String" "value" "[B" (.null) := F_13.other W_15 (Or.inl ne_8_a_3)
      have Z_17 : n0 ≤ h_15.size := by rw [W_15.size]; exact Z_9
      have K1_17 := Nat.le_trans K1_9 (Nat.le_of_eq W_15.size.symm)
      have N_15 := Fr.snoc X_15 N0 ge_8
      refine own_st st_15 ?_
      show own_Go p e below _ T_15 (mkF m 39 #[.val (.int x0), .val (.int x1), .val (.int x2), .val (.int x3), .val (.int x4), .val (.int (0 : Int32)), .unset, .unset, .unset, .unset, .unset, .unset, .unset, .unset] [(.ref a_8), (.ref a_3), (.ref a_3)])
      refine own_dup X_15 hx (hb hby at_39) (pc' := 40) rfl rfl ?_
      refine own_iconst X_15 hx (1) (hb hby at_40) (pc' := 41) rfl rfl ?_
      refine own_iloadN X_15 hx (hb hby at_41) (pc' := 42) rfl rfl ?_
      refine own_bipush X_15 hx (8) (hb hby at_42) (pc' := 44) rfl (by decide) ?_
      refine own_iushr X_15 hx (hb hby at_44) (pc' := 45) rfl ?_
      refine own_sipush X_15 hx (255) (hb hby at_45) (pc' := 48) rfl (by decide) ?_
      refine own_iand X_15 hx (hb hby at_48) (pc' := 49) rfl ?_
      refine own_i2c X_15 hx (hb hby at_49) (pc' := 50) rfl ?_
      obtain ⟨T_22, h_22, X_22, e_22, W_22, V_22, st_22⟩ := own_castore X_15 hx hZ e_15 V_16 1 (x := (nar .char ((XT.ushr x0 (8 : Int32)) &&& (255 : Int32)))) (j := (1 : Int32)) (Ls := #[.val (.int x0), .val (.int x1), .val (.int x2), .val (.int x3), .val (.int x4), .val (.int (0 : Int32)), .unset, .unset, .unset, .unset, .unset, .unset, .unset, .unset]) (st := [(.ref a_8), (.ref a_3), (.ref a_3)]) ⟨by decide, by decide⟩ rfl (Nat.le_of_ble_eq_true rfl) (hb hby at_50)
      have V_23 : Arv Z h_22 a_8 kc_8 .char (2 : Int32) [(.int (nar .char (nar .char (x0 &&& (255 : Int32))))), (.int (nar .char (nar .char ((XT.ushr x0 (8 : Int32)) &&& (255 : Int32)))))] (.int (0 : Int32)) := V_22
      have O_25 : Old Z n0 h_22 := O_18.wr W_22 ge_8
      have A_26 : Exa Z h_22 a_3 "java/lang/String" := A_19.wr W_22
      have F_27 : Fld Z h_22 a_3 "java/lang/String" "coder" "B" (.int (0 : Int32)) := F_20.other W_22 (Or.inl ne_8_a_3)
      have F_28 : Fld Z h_22 a_3 "java/lang/String" "value" "[B" (.null) := F_21.other W_22 (Or.inl ne_8_a_3)
      have Z_24 : n0 ≤ h_22.size := by rw [W_22.size]; exact Z_17
      have K1_24 := Nat.le_trans K1_17 (Nat.le_of_eq W_22.size.symm)
      have N_22 := Fr.snoc X_22 N_15 ge_8
      refine own_st st_22 ?_
      show own_Go p e below _ T_22 (mkF m 51 #[.val (.int x0), .val (.int x1), .val (.int x2), .val (.int x3), .val (.int x4), .val (.int (0 : Int32)), .unset, .unset, .unset, .unset, .unset, .unset, .unset, .unset] [(.ref a_8), (.ref a_3), (.ref a_3)])
      have hws_29 : ∀ d ∈ StrChars.Road.words, d.before a0 Z = true := fun d hd => hw d ((by decide +kernel : ∀ d ∈ StrChars.Road.words, d ∈ tables_1) d hd)
      have hp_29 : ∀ c ∈ ([(nar .char (nar .char (x0 &&& (255 : Int32)))), (nar .char (nar .char ((XT.ushr x0 (8 : Int32)) &&& (255 : Int32))))] : List Int32), ¬ c < 0 ∧ ¬ (255 : Int32) < c := by
        intro c hc
        simp only [List.mem_cons, List.not_mem_nil, or_false] at hc
        rcases hc with rfl | rfl <;> exact own_ch255 _
      obtain ⟨_, _, ⟨T_29, L_29, k_29, n_29⟩, -, X_29, ⟨Lc_29, hQ_29, l_29, y_29, z_29⟩, st_29⟩ := X_22.specialBack hx (y := (⟨"java/lang/String", "<init>", "([C)V"⟩ : MethodName)) rfl hown (mvT hZ (hw _ (List.mem_of_getElem? (i := 4) rfl))) (mvT hZ (hw _ (List.mem_of_getElem? (i := 5) rfl))) (mvT hZ (hw _ (List.mem_of_getElem? (i := 6) rfl))) (by decide) (StrChars.Road.backV (W := 1) hZ hws_29 (kI := 4) (hw _ (List.mem_of_getElem? (i := 1) rfl)) (cs := ([(nar .char (nar .char (x0 &&& (255 : Int32)))), (nar .char (nar .char ((XT.ushr x0 (8 : Int32)) &&& (255 : Int32))))] : List Int32)) (bs := ([(nar .char (nar .char (x0 &&& (255 : Int32)))), (nar .char (nar .char ((XT.ushr x0 (8 : Int32)) &&& (255 : Int32))))] : List Int32).map (fun c => c.toInt8.toInt32)) (n := 2) ge_3 Z_24 A_26 F_28 F_27 V_23 (Sz.ext O_25.2) Pz rfl rfl (by decide) (by decide) hp_29 rfl (by decide) (by decide)) (g := (mkF m 51 #[.val (.int x0), .val (.int x1), .val (.int x2), .val (.int x3), .val (.int x4), .val (.int (0 : Int32)), .unset, .unset, .unset, .unset, .unset, .unset, .unset, .unset] [(.ref a_8), (.ref a_3), (.ref a_3)])) rfl (by rw [hml]; rfl) (Steps.refl _) (a := a_3) (argsL := [(.ref a_8)]) (rest := [(.ref a_3)]) (lenOf pd0_0 rfl) rfl (by show 2 * 0 + _ ≤ _; exact Nat.le_of_eq rfl) (hb hby at_51) (fun _ _ => ⟨rfl, e_22, (by decide : 2 + 1 ≤ _), (by decide : 6 + 2 ≤ _)⟩)
      dsimp only [Pt.U, Pt.locs, Pt.cells, Pt.slots] at X_29 l_29 y_29 z_29 st_29 hQ_29
      subst l_29 y_29 z_29
      refine own_tr st_29 ?_
      obtain ⟨rfl, Nq_29, Kq_29, A_q29, F_c29, t_29, kb_29, gt_29, ht_29, nt_29, F_v29, V_b29⟩ := hQ_29
      have N_29 := Fr.app N_22 Nq_29
      have ne_29_a_8 : a_8 ≠ t_29 := Nat.ne_of_lt (Nat.lt_of_lt_of_le V_23.lt ht_29)
      have ne_29_a_3 : a_3 ≠ t_29 := Nat.ne_of_lt (Nat.lt_of_lt_of_le A_26.lt ht_29)
      have V_31 : Arv Z T_29.heap a_8 kc_8 .char (2 : Int32) [(.int (nar .char (nar .char (x0 &&& (255 : Int32))))), (.int (nar .char (nar .char ((XT.ushr x0 (8 : Int32)) &&& (255 : Int32)))))] (.int (0 : Int32)) := V_23.keep Kq_29 (ninS (Ne.symm ne_8_a_3) nin0)
      have O_32 : Old Z n0 T_29.heap := O_25.keep Kq_29 (allS ge_3 all0)
      have Z_30 : n0 ≤ T_29.heap.size := Nat.le_trans Z_24 Kq_29.1
      have K1_30 := Nat.le_trans K1_24 Kq_29.1
      show own_Go p e below _ T_29 (mkF m 54 #[.val (.int x0), .val (.int x1), .val (.int x2), .val (.int x3), .val (.int x4), .val (.int (0 : Int32)), .unset, .unset, .unset, .unset, .unset, .unset, .unset, .unset] [(.ref a_3)])
      refine own_astore X_29 hx (hb hby at_54) (pc' := 56) (Ls' := #[.val (.int x0), .val (.int x1), .val (.int x2), .val (.int x3), .val (.int x4), .val (.int (0 : Int32)), .val (.ref a_3), .unset, .unset, .unset, .unset, .unset, .unset, .unset]) rfl rfl rfl ?_
      refine own_iloadN X_29 hx (hb hby at_56) (pc' := 57) rfl rfl ?_
      refine own_iconst X_29 hx (4) (hb hby at_57) (pc' := 58) rfl rfl ?_
      refine own_iand X_29 hx (hb hby at_58) (pc' := 59) rfl ?_
      by_cases c_33 : (x2 &&& (4 : Int32)) = (0 : Int32)
      · skip
        refine own_ifY X_29 hx (hb hby at_59) (XT.i0_eq_t c_33) (pc' := 66) (by decide) (by decide) ?_
        obtain ⟨T_34, h_34, X_34, e_34, E_34, A_34, D_34, -, st_34⟩ := newO X_29 hx hZ hown (hw _ (List.mem_of_getElem? (i := 0) rfl)) (hw _ (List.mem_of_getElem? (i := 1) rfl)) (hw _ (List.mem_of_getElem? (i := 2) rfl)) rfl (g := (mkF m 66 #[.val (.int x0), .val (.int x1), .val (.int x2), .val (.int x3), .val (.int x4), .val (.int (0 : Int32)), .val (.ref a_3), .unset, .unset, .unset, .unset, .unset, .unset, .unset] [])) rfl (hb hby at_66) (by decide) (by decide)
        obtain ⟨a_34, g_34⟩ : ∃ z, z = T_29.heap.size := ⟨_, rfl⟩
        rw [← g_34] at A_34 D_34 st_34
        have ge_34 : n0 ≤ a_34 := Nat.le_trans Z_30 (Nat.le_of_eq g_34.symm)
        have ne_34_a_3 : a_3 ≠ a_34 := Nat.ne_of_lt (Nat.lt_of_lt_of_eq A_q29.lt g_34.symm)
        have ne_34_t_29 : t_29 ≠ a_34 := Nat.ne_of_lt (Nat.lt_of_lt_of_eq V_b29.lt g_34.symm)
        have ne_34_a_8 : a_8 ≠ a_34 := Nat.ne_of_lt (Nat.lt_of_lt_of_eq V_31.lt g_34.symm)
        have A_36 : Exa Z h_34 a_3 "java/lang/String" := A_q29.ext E_34
        have F_37 : Fld Z h_34 a_3 "java/lang/String" "coder" "B" (.int 0) := F_c29.ext E_34
        have F_38 : Fld Z h_34 a_3 "java/lang/String" "value" "[B" (.ref t_29) := F_v29.ext E_34
        have V_39 : Arv Z h_34 t_29 kb_29 .byte (2 : Int32) ((([(nar .char (nar .char (x0 &&& (255 : Int32)))), (nar .char (nar .char ((XT.ushr x0 (8 : Int32)) &&& (255 : Int32))))] : List Int32).map (fun c => c.toInt8.toInt32)).map Value.int) (.int 0) := V_b29.ext E_34
        have V_40 : Arv Z h_34 a_8 kc_8 .char (2 : Int32) [(.int (nar .char (nar .char (x0 &&& (255 : Int32))))), (.int (nar .char (nar .char ((XT.ushr x0 (8 : Int32)) &&& (255 : Int32)))))] (.int (0 : Int32)) := V_31.ext E_34
        have O_41 : Old Z n0 h_34 := O_32.ext E_34
        have Z_35 : n0 ≤ h_34.size := Nat.le_trans Z_30 E_34.1
        have K1_35 := Nat.le_trans K1_30 E_34.1
        have F_42 : Fld Z h_34 a_34 "java/lang/String" "coder" "B" (.int (0 : Int32)) := D_34 (Or.inr (hw _ (List.mem_of_getElem? (i := 27) rfl))) (ty := .byte) (by decide)
        have F_43 : Fld Z h_34 a_34 "java/lang/String" "value" "[B" (.null) := D_34 (Or.inr (hw _ (List.mem_of_getElem? (i := 29) rfl))) (ty := (.array .byte)) (by decide)
        refine own_st st_34 ?_
        show own_Go p e below _ T_34 (mkF m 69 #[.val (.int x0), .val (.int x1), .val (.int x2), .val (.int x3), .val (.int x4), .val (.int (0 : Int32)), .val (.ref a_3), .unset, .unset, .unset, .unset, .unset, .unset, .unset] [(.ref a_34)])
        refine own_dup X_34 hx (hb hby at_69) (pc' := 70) rfl rfl ?_
        refine own_iconst X_34 hx (1) (hb hby at_70) (pc' := 71) rfl rfl ?_
        obtain ⟨T_44, h_44, kc_44, X_44, e_44, E_44, A_44, st_44⟩ := newP X_34 hx hZ (hw _ (List.mem_of_getElem? (i := 3) rfl)) e_34 (g := (mkF m 71 #[.val (.int x0), .val (.int x1), .val (.int x2), .val (.int x3), .val (.int x4), .val (.int (0 : Int32)), .val (.ref a_3), .unset, .unset, .unset, .unset, .unset, .unset, .unset] [(.int (1 : Int32)), (.ref a_34), (.ref a_34)])) rfl (hb hby at_71) rfl (by decide) (cap := 1) (by decide) (by decide) (by decide) (by decide)
        obtain ⟨a_44, g_44⟩ : ∃ z, z = h_34.size := ⟨_, rfl⟩
        rw [← g_44] at A_44 st_44
        have ge_44 : n0 ≤ a_44 := Nat.le_trans Z_35 (Nat.le_of_eq g_44.symm)
        have ne_44_a_3 : a_3 ≠ a_44 := Nat.ne_of_lt (Nat.lt_of_lt_of_eq A_36.lt g_44.symm)
        have ne_44_t_29 : t_29 ≠ a_44 := Nat.ne_of_lt (Nat.lt_of_lt_of_eq V_39.lt g_44.symm)
        have ne_44_a_8 : a_8 ≠ a_44 := Nat.ne_of_lt (Nat.lt_of_lt_of_eq V_40.lt g_44.symm)
        have ne_44_a_34 : a_34 ≠ a_44 := Nat.ne_of_lt (Nat.lt_of_lt_of_eq A_34.lt g_44.symm)
        have A_46 : Exa Z h_44 a_3 "java/lang/String" := A_36.ext E_44
        have F_47 : Fld Z h_44 a_3 "java/lang/String" "coder" "B" (.int 0) := F_37.ext E_44
        have F_48 : Fld Z h_44 a_3 "java/lang/String" "value" "[B" (.ref t_29) := F_38.ext E_44
        have V_49 : Arv Z h_44 t_29 kb_29 .byte (2 : Int32) ((([(nar .char (nar .char (x0 &&& (255 : Int32)))), (nar .char (nar .char ((XT.ushr x0 (8 : Int32)) &&& (255 : Int32))))] : List Int32).map (fun c => c.toInt8.toInt32)).map Value.int) (.int 0) := V_39.ext E_44
        have V_50 : Arv Z h_44 a_8 kc_8 .char (2 : Int32) [(.int (nar .char (nar .char (x0 &&& (255 : Int32))))), (.int (nar .char (nar .char ((XT.ushr x0 (8 : Int32)) &&& (255 : Int32)))))] (.int (0 : Int32)) := V_40.ext E_44
        have O_51 : Old Z n0 h_44 := O_41.ext E_44
        have A_52 : Exa Z h_44 a_34 "java/lang/String" := A_34.ext E_44
        have F_53 : Fld Z h_44 a_34 "java/lang/String" "coder" "B" (.int (0 : Int32)) := F_42.ext E_44
        have F_54 : Fld Z h_44 a_34 "java/lang/String" "value" "[B" (.null) := F_43.ext E_44
        have Z_45 : n0 ≤ h_44.size := Nat.le_trans Z_35 E_44.1
        have K1_45 := Nat.le_trans K1_35 E_44.1
        have V_55 : Arv Z h_44 a_44 kc_44 .char (1 : Int32) [(.int (0 : Int32))] (.int (0 : Int32)) := (Arv.new A_44 (by decide)).pad (pad_rep [] (.int (0 : Int32)) 1)
        refine own_st st_44 ?_
        show own_Go p e below _ T_44 (mkF m 73 #[.val (.int x0), .val (.int x1), .val (.int x2), .val (.int x3), .val (.int x4), .val (.int (0 : Int32)), .val (.ref a_3), .unset, .unset, .unset, .unset, .unset, .unset, .unset] [(.ref a_44), (.ref a_34), (.ref a_34)])
        refine own_dup X_44 hx (hb hby at_73) (pc' := 74) rfl rfl ?_
        refine own_iconst X_44 hx (0) (hb hby at_74) (pc' := 75) rfl rfl ?_
        refine own_iloadN X_44 hx (hb hby at_75) (pc' := 76) rfl rfl ?_
        refine own_sipush X_44 hx (255) (hb hby at_76) (pc' := 79) rfl (by decide) ?_
        refine own_iand X_44 hx (hb hby at_79) (pc' := 80) rfl ?_
        refine own_i2c X_44 hx (hb hby at_80) (pc' := 81) rfl ?_
        obtain ⟨T_56, h_56, X_56, e_56, W_56, V_56, st_56⟩ := own_castore X_44 hx hZ e_44 V_55 0 (x := (nar .char (x1 &&& (255 : Int32)))) (j := (0 : Int32)) (Ls := #[.val (.int x0), .val (.int x1), .val (.int x2), .val (.int x3), .val (.int x4), .val (.int (0 : Int32)), .val (.ref a_3), .unset, .unset, .unset, .unset, .unset, .unset, .unset]) (st := [(.ref a_44), (.ref a_34), (.ref a_34)]) ⟨by decide, by decide⟩ rfl (Nat.le_of_ble_eq_true rfl) (hb hby at_81)
        have V_57 : Arv Z h_56 a_44 kc_44 .char (1 : Int32) [(.int (nar .char (nar .char (x1 &&& (255 : Int32)))))] (.int (0 : Int32)) := V_56
        have A_59 : Exa Z h_56 a_3 "java/lang/String" := A_46.wr W_56
        have F_60 : Fld Z h_56 a_3 "java/lang/String" "coder" "B" (.int 0) := F_47.other W_56 (Or.inl ne_44_a_3)
        have F_61 : Fld Z h_56 a_3 "java/lang/String" "value" "[B" (.ref t_29) := F_48.other W_56 (Or.inl ne_44_a_3)
        have V_62 : Arv Z h_56 t_29 kb_29 .byte (2 : Int32) ((([(nar .char (nar .char (x0 &&& (255 : Int32)))), (nar .char (nar .char ((XT.ushr x0 (8 : Int32)) &&& (255 : Int32))))] : List Int32).map (fun c => c.toInt8.toInt32)).map Value.int) (.int 0) := V_49.other W_56 ne_44_t_29
        have V_63 : Arv Z h_56 a_8 kc_8 .char (2 : Int32) [(.int (nar .char (nar .char (x0 &&& (255 : Int32))))), (.int (nar .char (nar .char ((XT.ushr x0 (8 : Int32)) &&& (255 : Int32)))))] (.int (0 : Int32)) := V_50.other W_56 ne_44_a_8
        have O_64 : Old Z n0 h_56 := O_51.wr W_56 ge_44
        have A_65 : Exa Z h_56 a_34 "java/lang/String" := A_52.wr W_56
        have F_66 : Fld Z h_56 a_34 "java/lang/String" "coder" "B" (.int (0 : Int32)) := F_53.other W_56 (Or.inl ne_44_a_34)
        have F_67 : Fld Z h_56 a_34 "java/lang/String" "value" "[B" (.null) := F_54.other W_56 (Or.inl ne_44_a_34)
        have Z_58 : n0 ≤ h_56.size := by rw [W_56.size]; exact Z_45
        have K1_58 := Nat.le_trans K1_45 (Nat.le_of_eq W_56.size.symm)
        have N_56 := Fr.snoc X_56 N_29 ge_44
        refine own_st st_56 ?_
        show own_Go p e below _ T_56 (mkF m 82 #[.val (.int x0), .val (.int x1), .val (.int x2), .val (.int x3), .val (.int x4), .val (.int (0 : Int32)), .val (.ref a_3), .unset, .unset, .unset, .unset, .unset, .unset, .unset] [(.ref a_44), (.ref a_34), (.ref a_34)])
        have hws_68 : ∀ d ∈ StrChars.Road.words, d.before a0 Z = true := fun d hd => hw d ((by decide +kernel : ∀ d ∈ StrChars.Road.words, d ∈ tables_1) d hd)
        have hp_68 : ∀ c ∈ ([(nar .char (nar .char (x1 &&& (255 : Int32))))] : List Int32), ¬ c < 0 ∧ ¬ (255 : Int32) < c := by
          intro c hc
          simp only [List.mem_cons, List.not_mem_nil, or_false] at hc
          rcases hc with rfl <;> exact own_ch255 _
        obtain ⟨_, _, ⟨T_68, L_68, k_68, n_68⟩, -, X_68, ⟨Lc_68, hQ_68, l_68, y_68, z_68⟩, st_68⟩ := X_56.specialBack hx (y := (⟨"java/lang/String", "<init>", "([C)V"⟩ : MethodName)) rfl hown (mvT hZ (hw _ (List.mem_of_getElem? (i := 4) rfl))) (mvT hZ (hw _ (List.mem_of_getElem? (i := 5) rfl))) (mvT hZ (hw _ (List.mem_of_getElem? (i := 6) rfl))) (by decide) (StrChars.Road.backV (W := 1) hZ hws_68 (kI := 4) (hw _ (List.mem_of_getElem? (i := 1) rfl)) (cs := ([(nar .char (nar .char (x1 &&& (255 : Int32))))] : List Int32)) (bs := ([(nar .char (nar .char (x1 &&& (255 : Int32))))] : List Int32).map (fun c => c.toInt8.toInt32)) (n := 1) ge_34 Z_58 A_65 F_67 F_66 V_57 (Sz.ext O_64.2) Pz rfl rfl (by decide) (by decide) hp_68 rfl (by decide) (by decide)) (g := (mkF m 82 #[.val (.int x0), .val (.int x1), .val (.int x2), .val (.int x3), .val (.int x4), .val (.int (0 : Int32)), .val (.ref a_3), .unset, .unset, .unset, .unset, .unset, .unset, .unset] [(.ref a_44), (.ref a_34), (.ref a_34)])) rfl (by rw [hml]; rfl) (Steps.refl _) (a := a_34) (argsL := [(.ref a_44)]) (rest := [(.ref a_34)]) (lenOf pd0_0 rfl) rfl (by show 2 * 0 + _ ≤ _; exact Nat.le_of_eq rfl) (hb hby at_82) (fun _ _ => ⟨rfl, e_56, (by decide : 5 + 1 ≤ _), (by decide : 13 + 1 ≤ _)⟩)
        dsimp only [Pt.U, Pt.locs, Pt.cells, Pt.slots] at X_68 l_68 y_68 z_68 st_68 hQ_68
        subst l_68 y_68 z_68
        refine own_tr st_68 ?_
        obtain ⟨rfl, Nq_68, Kq_68, A_q68, F_c68, t_68, kb_68, gt_68, ht_68, nt_68, F_v68, V_b68⟩ := hQ_68
        have N_68 := Fr.app N_56 Nq_68
        have ne_68_a_44 : a_44 ≠ t_68 := Nat.ne_of_lt (Nat.lt_of_lt_of_le V_57.lt ht_68)
        have ne_68_a_3 : a_3 ≠ t_68 := Nat.ne_of_lt (Nat.lt_of_lt_of_le A_59.lt ht_68)
        have ne_68_t_29 : t_29 ≠ t_68 := Nat.ne_of_lt (Nat.lt_of_lt_of_le V_62.lt ht_68)
        have ne_68_a_8 : a_8 ≠ t_68 := Nat.ne_of_lt (Nat.lt_of_lt_of_le V_63.lt ht_68)
        have ne_68_a_34 : a_34 ≠ t_68 := Nat.ne_of_lt (Nat.lt_of_lt_of_le A_65.lt ht_68)
        have V_70 : Arv Z T_68.heap a_44 kc_44 .char (1 : Int32) [(.int (nar .char (nar .char (x1 &&& (255 : Int32)))))] (.int (0 : Int32)) := V_57.keep Kq_68 (ninS (Ne.symm ne_44_a_34) nin0)
        have A_71 : Exa Z T_68.heap a_3 "java/lang/String" := A_59.keep Kq_68
        have F_72 : Fld Z T_68.heap a_3 "java/lang/String" "coder" "B" (.int 0) := F_60.keep Kq_68 (ninS ne_34_a_3 nin0)
        have F_73 : Fld Z T_68.heap a_3 "java/lang/String" "value" "[B" (.ref t_29) := F_61.keep Kq_68 (ninS ne_34_a_3 nin0)
        have V_74 : Arv Z T_68.heap t_29 kb_29 .byte (2 : Int32) ((([(nar .char (nar .char (x0 &&& (255 : Int32)))), (nar .char (nar .char ((XT.ushr x0 (8 : Int32)) &&& (255 : Int32))))] : List Int32).map (fun c => c.toInt8.toInt32)).map Value.int) (.int 0) := V_62.keep Kq_68 (ninS ne_34_t_29 nin0)
        have V_75 : Arv Z T_68.heap a_8 kc_8 .char (2 : Int32) [(.int (nar .char (nar .char (x0 &&& (255 : Int32))))), (.int (nar .char (nar .char ((XT.ushr x0 (8 : Int32)) &&& (255 : Int32)))))] (.int (0 : Int32)) := V_63.keep Kq_68 (ninS ne_34_a_8 nin0)
        have O_76 : Old Z n0 T_68.heap := O_64.keep Kq_68 (allS ge_34 all0)
        have Z_69 : n0 ≤ T_68.heap.size := Nat.le_trans Z_58 Kq_68.1
        have K1_69 := Nat.le_trans K1_58 Kq_68.1
        show own_Go p e below _ T_68 (mkF m 85 #[.val (.int x0), .val (.int x1), .val (.int x2), .val (.int x3), .val (.int x4), .val (.int (0 : Int32)), .val (.ref a_3), .unset, .unset, .unset, .unset, .unset, .unset, .unset] [(.ref a_34)])
        refine own_astore X_68 hx (hb hby at_85) (pc' := 87) (Ls' := #[.val (.int x0), .val (.int x1), .val (.int x2), .val (.int x3), .val (.int x4), .val (.int (0 : Int32)), .val (.ref a_3), .val (.ref a_34), .unset, .unset, .unset, .unset, .unset, .unset]) rfl rfl rfl ?_
        refine own_iload X_68 hx (hb hby at_87) (pc' := 89) rfl rfl ?_
        refine own_ifY X_68 hx (hb hby at_89) (by decide) (pc' := 97) (by decide) (by decide) ?_
        obtain ⟨la_77, T_77, h_77, kn_77, X_77, e_77, E_77, hS, hkn_77, hZ, hown, st_77⟩ := ldcS X_68 hx hZ hown (hw _ (List.mem_of_getElem? (i := 30) rfl)) own_wS rfl hS K1_69 (g := (mkF m 97 #[.val (.int x0), .val (.int x1), .val (.int x2), .val (.int x3), .val (.int x4), .val (.int (0 : Int32)), .val (.ref a_3), .val (.ref a_34), .unset, .unset, .unset, .unset, .unset, .unset] [])) rfl (hb hby at_97) (n := 32) (by decide) (by decide) (by decide) (by decide)
        have A_79 : Exa Z h_77 a_34 "java/lang/String" := A_q68.ext E_77
        have F_80 : Fld Z h_77 a_34 "java/lang/String" "coder" "B" (.int 0) := F_c68.ext E_77
        have F_81 : Fld Z h_77 a_34 "java/lang/String" "value" "[B" (.ref t_68) := F_v68.ext E_77
        have V_82 : Arv Z h_77 t_68 kb_68 .byte (1 : Int32) ((([(nar .char (nar .char (x1 &&& (255 : Int32))))] : List Int32).map (fun c => c.toInt8.toInt32)).map Value.int) (.int 0) := V_b68.ext E_77
        have V_83 : Arv Z h_77 a_44 kc_44 .char (1 : Int32) [(.int (nar .char (nar .char (x1 &&& (255 : Int32)))))] (.int (0 : Int32)) := V_70.ext E_77
        have A_84 : Exa Z h_77 a_3 "java/lang/String" := A_71.ext E_77
        have F_85 : Fld Z h_77 a_3 "java/lang/String" "coder" "B" (.int 0) := F_72.ext E_77
        have F_86 : Fld Z h_77 a_3 "java/lang/String" "value" "[B" (.ref t_29) := F_73.ext E_77
        have V_87 : Arv Z h_77 t_29 kb_29 .byte (2 : Int32) ((([(nar .char (nar .char (x0 &&& (255 : Int32)))), (nar .char (nar .char ((XT.ushr x0 (8 : Int32)) &&& (255 : Int32))))] : List Int32).map (fun c => c.toInt8.toInt32)).map Value.int) (.int 0) := V_74.ext E_77
        have V_88 : Arv Z h_77 a_8 kc_8 .char (2 : Int32) [(.int (nar .char (nar .char (x0 &&& (255 : Int32))))), (.int (nar .char (nar .char ((XT.ushr x0 (8 : Int32)) &&& (255 : Int32)))))] (.int (0 : Int32)) := V_75.ext E_77
        have O_89 : Old Z n0 h_77 := O_76.ext E_77
        have Z_78 : n0 ≤ h_77.size := Nat.le_trans Z_69 E_77.1
        refine own_st st_77 ?_
        show own_Go p e below _ T_77 (mkF m 99 #[.val (.int x0), .val (.int x1), .val (.int x2), .val (.int x3), .val (.int x4), .val (.int (0 : Int32)), .val (.ref a_3), .val (.ref a_34), .unset, .unset, .unset, .unset, .unset, .unset] [(.ref la_77)])
        refine own_astore X_77 hx (hb hby at_99) (pc' := 101) (Ls' := #[.val (.int x0), .val (.int x1), .val (.int x2), .val (.int x3), .val (.int x4), .val (.int (0 : Int32)), .val (.ref a_3), .val (.ref a_34), .val (.ref la_77), .unset, .unset, .unset, .unset, .unset]) rfl rfl rfl ?_
        obtain ⟨T_90, h_90, X_90, e_90, E_90, A_90, D_90, -, st_90⟩ := newO X_77 hx hZ hown (hw _ (List.mem_of_getElem? (i := 33) rfl)) (hw _ (List.mem_of_getElem? (i := 34) rfl)) (hw _ (List.mem_of_getElem? (i := 35) rfl)) e_77 (g := (mkF m 101 #[.val (.int x0), .val (.int x1), .val (.int x2), .val (.int x3), .val (.int x4), .val (.int (0 : Int32)), .val (.ref a_3), .val (.ref a_34), .val (.ref la_77), .unset, .unset, .unset, .unset, .unset] [])) rfl (hb hby at_101) (by decide) (by decide)
        obtain ⟨a_90, g_90⟩ : ∃ z, z = h_77.size := ⟨_, rfl⟩
        rw [← g_90] at A_90 D_90 st_90
        have ge_90 : n0 ≤ a_90 := Nat.le_trans Z_78 (Nat.le_of_eq g_90.symm)
        have ne_90_a_34 : a_34 ≠ a_90 := Nat.ne_of_lt (Nat.lt_of_lt_of_eq A_79.lt g_90.symm)
        have ne_90_t_68 : t_68 ≠ a_90 := Nat.ne_of_lt (Nat.lt_of_lt_of_eq V_82.lt g_90.symm)
        have ne_90_a_44 : a_44 ≠ a_90 := Nat.ne_of_lt (Nat.lt_of_lt_of_eq V_83.lt g_90.symm)
        have ne_90_a_3 : a_3 ≠ a_90 := Nat.ne_of_lt (Nat.lt_of_lt_of_eq A_84.lt g_90.symm)
        have ne_90_t_29 : t_29 ≠ a_90 := Nat.ne_of_lt (Nat.lt_of_lt_of_eq V_87.lt g_90.symm)
        have ne_90_a_8 : a_8 ≠ a_90 := Nat.ne_of_lt (Nat.lt_of_lt_of_eq V_88.lt g_90.symm)
        have A_92 : Exa Z h_90 a_34 "java/lang/String" := A_79.ext E_90
        have F_93 : Fld Z h_90 a_34 "java/lang/String" "coder" "B" (.int 0) := F_80.ext E_90
        have F_94 : Fld Z h_90 a_34 "java/lang/String" "value" "[B" (.ref t_68) := F_81.ext E_90
        have V_95 : Arv Z h_90 t_68 kb_68 .byte (1 : Int32) ((([(nar .char (nar .char (x1 &&& (255 : Int32))))] : List Int32).map (fun c => c.toInt8.toInt32)).map Value.int) (.int 0) := V_82.ext E_90
        have V_96 : Arv Z h_90 a_44 kc_44 .char (1 : Int32) [(.int (nar .char (nar .char (x1 &&& (255 : Int32)))))] (.int (0 : Int32)) := V_83.ext E_90
        have A_97 : Exa Z h_90 a_3 "java/lang/String" := A_84.ext E_90
        have F_98 : Fld Z h_90 a_3 "java/lang/String" "coder" "B" (.int 0) := F_85.ext E_90
        have F_99 : Fld Z h_90 a_3 "java/lang/String" "value" "[B" (.ref t_29) := F_86.ext E_90
        have V_100 : Arv Z h_90 t_29 kb_29 .byte (2 : Int32) ((([(nar .char (nar .char (x0 &&& (255 : Int32)))), (nar .char (nar .char ((XT.ushr x0 (8 : Int32)) &&& (255 : Int32))))] : List Int32).map (fun c => c.toInt8.toInt32)).map Value.int) (.int 0) := V_87.ext E_90
        have V_101 : Arv Z h_90 a_8 kc_8 .char (2 : Int32) [(.int (nar .char (nar .char (x0 &&& (255 : Int32))))), (.int (nar .char (nar .char ((XT.ushr x0 (8 : Int32)) &&& (255 : Int32)))))] (.int (0 : Int32)) := V_88.ext E_90
        have O_102 : Old Z n0 h_90 := O_89.ext E_90
        have Z_91 : n0 ≤ h_90.size := Nat.le_trans Z_78 E_90.1
        have K1_91 := Nat.le_trans hkn_77 E_90.1
        have F_103 : Fld Z h_90 a_90 "com/example/muster/muster/role/RoleRelation" "roleId" "Ljava/lang/String;" (.null) := D_90 (Or.inr (hw _ (List.mem_of_getElem? (i := 41) rfl))) (ty := (.object "java/lang/String")) (by decide)
        have F_104 : Fld Z h_90 a_90 "com/example/muster/muster/role/RoleRelation" "namedId" "Ljava/lang/String;" (.null) := D_90 (Or.inr (hw _ (List.mem_of_getElem? (i := 43) rfl))) (ty := (.object "java/lang/String")) (by decide)
        have F_105 : Fld Z h_90 a_90 "com/example/muster/muster/role/RoleRelation" "namesParent" "Z" (.int (0 : Int32)) := D_90 (Or.inr (hw _ (List.mem_of_getElem? (i := 45) rfl))) (ty := .boolean) (by decide)
        have F_106 : Fld Z h_90 a_90 "com/example/muster/muster/role/RoleRelation" "element" "Ljava/lang/String;" (.null) := D_90 (Or.inr (hw _ (List.mem_of_getElem? (i := 47) rfl))) (ty := (.object "java/lang/String")) (by decide)
        have F_107 : Fld Z h_90 a_90 "com/example/muster/muster/role/RoleRelation" "line" "I" (.int (0 : Int32)) := D_90 (Or.inr (hw _ (List.mem_of_getElem? (i := 49) rfl))) (ty := .int) (by decide)
        have F_108 : Fld Z h_90 a_90 "com/example/muster/muster/role/RoleRelation" "column" "I" (.int (0 : Int32)) := D_90 (Or.inr (hw _ (List.mem_of_getElem? (i := 51) rfl))) (ty := .int) (by decide)
        refine own_st st_90 ?_
        show own_Go p e below _ T_90 (mkF m 104 #[.val (.int x0), .val (.int x1), .val (.int x2), .val (.int x3), .val (.int x4), .val (.int (0 : Int32)), .val (.ref a_3), .val (.ref a_34), .val (.ref la_77), .unset, .unset, .unset, .unset, .unset] [(.ref a_90)])
        refine own_dup X_90 hx (hb hby at_104) (pc' := 105) rfl rfl ?_
        refine own_aload X_90 hx (hb hby at_105) (pc' := 107) rfl rfl rfl ?_
        refine own_aload X_90 hx (hb hby at_107) (pc' := 109) rfl rfl rfl ?_
        refine own_iload X_90 hx (hb hby at_109) (pc' := 111) rfl rfl ?_
        refine own_aload X_90 hx (hb hby at_111) (pc' := 113) rfl rfl rfl ?_
        refine own_iloadN X_90 hx (hb hby at_113) (pc' := 114) rfl rfl ?_
        refine own_iload X_90 hx (hb hby at_114) (pc' := 116) rfl rfl ?_
        obtain ⟨_, _, ⟨T_109, L_109, k_109, n_109⟩, -, X_109, ⟨Lc_109, hQ_109, l_109, y_109, z_109⟩, st_109⟩ := X_90.specialBack hx  (y := (⟨"com/example/muster/muster/role/RoleRelation", "<init>", "(Ljava/lang/String;Ljava/lang/String;ZLjava/lang/String;II)V"⟩ : MethodName)) rfl hown (mvT hZ (hw _ (List.mem_of_getElem? (i := 36) rfl))) (mvT hZ (hw _ (List.mem_of_getElem? (i := 37) rfl))) (mvT hZ (hw _ (List.mem_of_getElem? (i := 38) rfl))) (by decide) (backOf (W := 1) (rm1 l Z a0 hw [] a_90 (.ref a_3) (.ref a_34) (0 : Int32) la_77 x3 x4 h_90 n0 Z_91 rfl rfl A_90 F_103 F_104 F_105 F_106 F_107 F_108 ge_90 rfl rfl) hZ (hw _ (List.mem_of_getElem? (i := 38) rfl)) (hw _ (List.mem_of_getElem? (i := 35) rfl)) (by decide) (by decide)) (g := (mkF m 116 #[.val (.int x0), .val (.int x1), .val (.int x2), .val (.int x3), .val (.int x4), .val (.int (0 : Int32)), .val (.ref a_3), .val (.ref a_34), .val (.ref la_77), .unset, .unset, .unset, .unset, .unset] [(.int x4), (.int x3), (.ref la_77), (.int (0 : Int32)), (.ref a_34), (.ref a_3), (.ref a_90), (.ref a_90)])) rfl (by rw [hml]; rfl) (Steps.refl _) (a := a_90) (argsL := [(.ref a_3), (.ref a_34), (.int (0 : Int32)), (.ref la_77), (.int x3), (.int x4)]) (rest := [(.ref a_90)]) (lenOf pd0_1 rfl) rfl (by show 2 * 0 + _ ≤ _; exact Nat.le_of_eq rfl) (hb hby at_116) (fun _ _ => ⟨rfl, e_90, (by decide : 9 + 0 ≤ _), (by decide : 56 + 0 ≤ _)⟩)
        dsimp only [Pt.U, Pt.locs, Pt.cells, Pt.slots] at X_109 l_109 y_109 z_109 st_109 hQ_109
        subst l_109 y_109 z_109
        refine own_tr st_109 ?_
        obtain ⟨rfl, Nq_109, Kq_109, q0_109, q1_109, q2_109⟩ := hQ_109
        have N_109 := Fr.app N_68 Nq_109
        have F_110 : Fld Z T_109.heap a_90 "com/example/muster/muster/role/RoleRelation" "roleId" "Ljava/lang/String;" (.ref a_3) := q0_109
        have F_111 : Fld Z T_109.heap a_90 "com/example/muster/muster/role/RoleRelation" "namedId" "Ljava/lang/String;" (.ref a_34) := q1_109
        have F_112 : Fld Z T_109.heap a_90 "com/example/muster/muster/role/RoleRelation" "namesParent" "Z" (.int (0 : Int32)) := q2_109
        have A_114 : Exa Z T_109.heap a_34 "java/lang/String" := A_92.keep Kq_109
        have F_115 : Fld Z T_109.heap a_34 "java/lang/String" "coder" "B" (.int 0) := F_93.keep Kq_109 (ninS ne_90_a_34 nin0)
        have F_116 : Fld Z T_109.heap a_34 "java/lang/String" "value" "[B" (.ref t_68) := F_94.keep Kq_109 (ninS ne_90_a_34 nin0)
        have V_117 : Arv Z T_109.heap t_68 kb_68 .byte (1 : Int32) ((([(nar .char (nar .char (x1 &&& (255 : Int32))))] : List Int32).map (fun c => c.toInt8.toInt32)).map Value.int) (.int 0) := V_95.keep Kq_109 (ninS ne_90_t_68 nin0)
        have V_118 : Arv Z T_109.heap a_44 kc_44 .char (1 : Int32) [(.int (nar .char (nar .char (x1 &&& (255 : Int32)))))] (.int (0 : Int32)) := V_96.keep Kq_109 (ninS ne_90_a_44 nin0)
        have A_119 : Exa Z T_109.heap a_3 "java/lang/String" := A_97.keep Kq_109
        have F_120 : Fld Z T_109.heap a_3 "java/lang/String" "coder" "B" (.int 0) := F_98.keep Kq_109 (ninS ne_90_a_3 nin0)
        have F_121 : Fld Z T_109.heap a_3 "java/lang/String" "value" "[B" (.ref t_29) := F_99.keep Kq_109 (ninS ne_90_a_3 nin0)
        have V_122 : Arv Z T_109.heap t_29 kb_29 .byte (2 : Int32) ((([(nar .char (nar .char (x0 &&& (255 : Int32)))), (nar .char (nar .char ((XT.ushr x0 (8 : Int32)) &&& (255 : Int32))))] : List Int32).map (fun c => c.toInt8.toInt32)).map Value.int) (.int 0) := V_100.keep Kq_109 (ninS ne_90_t_29 nin0)
        have V_123 : Arv Z T_109.heap a_8 kc_8 .char (2 : Int32) [(.int (nar .char (nar .char (x0 &&& (255 : Int32))))), (.int (nar .char (nar .char ((XT.ushr x0 (8 : Int32)) &&& (255 : Int32)))))] (.int (0 : Int32)) := V_101.keep Kq_109 (ninS ne_90_a_8 nin0)
        have O_124 : Old Z n0 T_109.heap := O_102.keep Kq_109 (allS ge_90 all0)
        have A_125 : Exa Z T_109.heap a_90 "com/example/muster/muster/role/RoleRelation" := A_90.keep Kq_109
        have Z_113 : n0 ≤ T_109.heap.size := Nat.le_trans Z_91 Kq_109.1
        have K1_113 := Nat.le_trans K1_91 Kq_109.1
        show own_Go p e below _ T_109 (mkF m 119 #[.val (.int x0), .val (.int x1), .val (.int x2), .val (.int x3), .val (.int x4), .val (.int (0 : Int32)), .val (.ref a_3), .val (.ref a_34), .val (.ref la_77), .unset, .unset, .unset, .unset, .unset] [(.ref a_90)])
        refine own_astore X_109 hx (hb hby at_119) (pc' := 121) (Ls' := #[.val (.int x0), .val (.int x1), .val (.int x2), .val (.int x3), .val (.int x4), .val (.int (0 : Int32)), .val (.ref a_3), .val (.ref a_34), .val (.ref la_77), .val (.ref a_90), .unset, .unset, .unset, .unset]) rfl rfl rfl ?_
        refine own_aload X_109 hx (hb hby at_121) (pc' := 123) rfl rfl rfl ?_
        obtain ⟨cq_126, kq_126, qa_126, qb_126, qc_126⟩ := isOf hZ rfl A_125
        obtain ⟨_, _, ⟨T_126, L_126, k_126, n_126⟩, -, X_126, ⟨Lc_126, hQ_126, l_126, y_126, z_126⟩, st_126⟩ := X_109.virtualBack hx  (y := (⟨"com/example/muster/muster/role/RoleRelation", "getChildId", "()Ljava/lang/String;"⟩ : MethodName)) (z := (⟨"com/example/muster/muster/role/RoleRelation", "getChildId", "()Ljava/lang/String;"⟩ : MethodName)) hown (mvT hZ (hw _ (List.mem_of_getElem? (i := 52) rfl))) (mvT hZ (hw _ (List.mem_of_getElem? (i := 53) rfl))) (notFace_of_selects (args := #[]) (mvT hZ (hw _ (List.mem_of_getElem? (i := 55) rfl)))) (mvT hZ (hw _ (List.mem_of_getElem? (i := 55) rfl))) (mvT hZ (hw _ (List.mem_of_getElem? (i := 54) rfl))) (by decide) (backOf (W := 0) (rm3 l Z a0 hw [] a_90 (.ref a_3) (.ref a_34) (0 : Int32) T_109.heap n0 Z_113 F_110 F_111 F_112 rfl rfl) hZ (hw _ (List.mem_of_getElem? (i := 56) rfl)) (hw _ (List.mem_of_getElem? (i := 35) rfl)) (by decide) (by decide)) qa_126 qc_126 (g := (mkF m 123 #[.val (.int x0), .val (.int x1), .val (.int x2), .val (.int x3), .val (.int x4), .val (.int (0 : Int32)), .val (.ref a_3), .val (.ref a_34), .val (.ref la_77), .val (.ref a_90), .unset, .unset, .unset, .unset] [(.ref a_90)])) rfl (by rw [hml]; rfl) (Steps.refl _) (argsL := []) (rest := []) (lenOf pd0_2 rfl) rfl (by show 2 * 0 + _ ≤ _; exact Nat.le_of_eq rfl) (hb hby at_123) (fun _ _ => ⟨rfl, rfl, (by decide : 9 + 0 ≤ _), (by decide : 56 + 0 ≤ _)⟩)
        dsimp only [Pt.U, Pt.locs, Pt.cells, Pt.slots] at X_126 l_126 y_126 z_126 st_126 hQ_126
        subst l_126 y_126 z_126
        refine own_tr st_126 ?_
        obtain ⟨rfl, Nq_126, eq_126⟩ := hQ_126
        have N_126 := Fr.app N_109 Nq_126
        dsimp only [Option.toList, List.cons_append, List.nil_append]
        rw [if_pos (by decide)]
        show own_Go p e below _ T_126 (mkF m 126 #[.val (.int x0), .val (.int x1), .val (.int x2), .val (.int x3), .val (.int x4), .val (.int (0 : Int32)), .val (.ref a_3), .val (.ref a_34), .val (.ref la_77), .val (.ref a_90), .unset, .unset, .unset, .unset] [(.ref a_34)])
        refine own_astore X_126 hx (hb hby at_126) (pc' := 128) (Ls' := #[.val (.int x0), .val (.int x1), .val (.int x2), .val (.int x3), .val (.int x4), .val (.int (0 : Int32)), .val (.ref a_3), .val (.ref a_34), .val (.ref la_77), .val (.ref a_90), .val (.ref a_34), .unset, .unset, .unset]) rfl rfl rfl ?_
        refine own_aload X_126 hx (hb hby at_128) (pc' := 130) rfl rfl rfl ?_
        obtain ⟨cq_127, kq_127, qa_127, qb_127, qc_127⟩ := isOf hZ eq_126 A_125
        obtain ⟨_, _, ⟨T_127, L_127, k_127, n_127⟩, -, X_127, ⟨Lc_127, hQ_127, l_127, y_127, z_127⟩, st_127⟩ := X_126.virtualBack hx  (y := (⟨"com/example/muster/muster/role/RoleRelation", "getParentId", "()Ljava/lang/String;"⟩ : MethodName)) (z := (⟨"com/example/muster/muster/role/RoleRelation", "getParentId", "()Ljava/lang/String;"⟩ : MethodName)) hown (mvT hZ (hw _ (List.mem_of_getElem? (i := 57) rfl))) (mvT hZ (hw _ (List.mem_of_getElem? (i := 58) rfl))) (notFace_of_selects (args := #[]) (mvT hZ (hw _ (List.mem_of_getElem? (i := 60) rfl)))) (mvT hZ (hw _ (List.mem_of_getElem? (i := 60) rfl))) (mvT hZ (hw _ (List.mem_of_getElem? (i := 59) rfl))) (by decide) (backOf (W := 0) (rm2 l Z a0 hw [] a_90 (.ref a_3) (.ref a_34) (0 : Int32) T_109.heap n0 Z_113 F_110 F_111 F_112 rfl rfl) hZ (hw _ (List.mem_of_getElem? (i := 61) rfl)) (hw _ (List.mem_of_getElem? (i := 35) rfl)) (by decide) (by decide)) qa_127 qc_127 (g := (mkF m 130 #[.val (.int x0), .val (.int x1), .val (.int x2), .val (.int x3), .val (.int x4), .val (.int (0 : Int32)), .val (.ref a_3), .val (.ref a_34), .val (.ref la_77), .val (.ref a_90), .val (.ref a_34), .unset, .unset, .unset] [(.ref a_90)])) rfl (by rw [hml]; rfl) (Steps.refl _) (argsL := []) (rest := []) (lenOf pd0_2 rfl) rfl (by show 2 * 0 + _ ≤ _; exact Nat.le_of_eq rfl) (hb hby at_130) (fun _ _ => ⟨rfl, eq_126, (by decide : 9 + 0 ≤ _), (by decide : 56 + 0 ≤ _)⟩)
        dsimp only [Pt.U, Pt.locs, Pt.cells, Pt.slots] at X_127 l_127 y_127 z_127 st_127 hQ_127
        subst l_127 y_127 z_127
        refine own_tr st_127 ?_
        obtain ⟨rfl, Nq_127, eq_127⟩ := hQ_127
        have N_127 := Fr.app N_126 Nq_127
        dsimp only [Option.toList, List.cons_append, List.nil_append]
        rw [if_pos (by decide)]
        show own_Go p e below _ T_127 (mkF m 133 #[.val (.int x0), .val (.int x1), .val (.int x2), .val (.int x3), .val (.int x4), .val (.int (0 : Int32)), .val (.ref a_3), .val (.ref a_34), .val (.ref la_77), .val (.ref a_90), .val (.ref a_34), .unset, .unset, .unset] [(.ref a_3)])
        refine own_astore X_127 hx (hb hby at_133) (pc' := 135) (Ls' := #[.val (.int x0), .val (.int x1), .val (.int x2), .val (.int x3), .val (.int x4), .val (.int (0 : Int32)), .val (.ref a_3), .val (.ref a_34), .val (.ref la_77), .val (.ref a_90), .val (.ref a_34), .val (.ref a_3), .unset, .unset]) rfl rfl rfl ?_
        refine own_iload X_127 hx (hb hby at_135) (pc' := 137) rfl rfl ?_
        refine own_ifY X_127 hx (hb hby at_137) (by decide) (pc' := 145) (by decide) (by decide) ?_
        refine own_aload X_127 hx (hb hby at_145) (pc' := 147) rfl rfl rfl ?_
        refine own_astore X_127 hx (hb hby at_147) (pc' := 149) (Ls' := #[.val (.int x0), .val (.int x1), .val (.int x2), .val (.int x3), .val (.int x4), .val (.int (0 : Int32)), .val (.ref a_3), .val (.ref a_34), .val (.ref la_77), .val (.ref a_90), .val (.ref a_34), .val (.ref a_3), .val (.ref a_34), .unset]) rfl rfl rfl ?_
        refine own_iload X_127 hx (hb hby at_149) (pc' := 151) rfl rfl ?_
        refine own_ifY X_127 hx (hb hby at_151) (by decide) (pc' := 159) (by decide) (by decide) ?_
        refine own_aload X_127 hx (hb hby at_159) (pc' := 161) rfl rfl rfl ?_
        refine own_astore X_127 hx (hb hby at_161) (pc' := 163) (Ls' := #[.val (.int x0), .val (.int x1), .val (.int x2), .val (.int x3), .val (.int x4), .val (.int (0 : Int32)), .val (.ref a_3), .val (.ref a_34), .val (.ref la_77), .val (.ref a_90), .val (.ref a_34), .val (.ref a_3), .val (.ref a_34), .val (.ref a_3)]) rfl rfl rfl ?_
        refine own_aload X_127 hx (hb hby at_163) (pc' := 165) rfl rfl rfl ?_
        refine own_aload X_127 hx (hb hby at_165) (pc' := 167) rfl rfl rfl ?_
        refine own_acmpN X_127 hx rfl rfl (hb hby at_167) (XT.aa_ne_f rfl) (pc' := 170) rfl ?_
        refine own_aload X_127 hx (hb hby at_170) (pc' := 172) rfl rfl rfl ?_
        refine own_aload X_127 hx (hb hby at_172) (pc' := 174) rfl rfl rfl ?_
        refine own_acmpN X_127 hx rfl rfl (hb hby at_174) (XT.aa_ne_f rfl) (pc' := 177) rfl ?_
        refine own_aload X_127 hx (hb hby at_177) (pc' := 179) rfl rfl rfl ?_
        obtain ⟨cq_128, kq_128, qa_128, qb_128, qc_128⟩ := isOf hZ eq_127 A_125
        obtain ⟨_, _, ⟨T_128, L_128, k_128, n_128⟩, -, X_128, ⟨Lc_128, hQ_128, l_128, y_128, z_128⟩, st_128⟩ := X_127.virtualBack hx  (y := (⟨"com/example/muster/muster/role/RoleRelation", "getRoleId", "()Ljava/lang/String;"⟩ : MethodName)) (z := (⟨"com/example/muster/muster/role/RoleRelation", "getRoleId", "()Ljava/lang/String;"⟩ : MethodName)) hown (mvT hZ (hw _ (List.mem_of_getElem? (i := 62) rfl))) (mvT hZ (hw _ (List.mem_of_getElem? (i := 63) rfl))) (notFace_of_selects (args := #[]) (mvT hZ (hw _ (List.mem_of_getElem? (i := 65) rfl)))) (mvT hZ (hw _ (List.mem_of_getElem? (i := 65) rfl))) (mvT hZ (hw _ (List.mem_of_getElem? (i := 64) rfl))) (by decide) (backOf (W := 0) (rm4 l Z a0 hw [] a_90 (.ref a_3) T_109.heap n0 Z_113 F_110 rfl) hZ (hw _ (List.mem_of_getElem? (i := 66) rfl)) (hw _ (List.mem_of_getElem? (i := 35) rfl)) (by decide) (by decide)) qa_128 qc_128 (g := (mkF m 179 #[.val (.int x0), .val (.int x1), .val (.int x2), .val (.int x3), .val (.int x4), .val (.int (0 : Int32)), .val (.ref a_3), .val (.ref a_34), .val (.ref la_77), .val (.ref a_90), .val (.ref a_34), .val (.ref a_3), .val (.ref a_34), .val (.ref a_3)] [(.ref a_90)])) rfl (by rw [hml]; rfl) (Steps.refl _) (argsL := []) (rest := []) (lenOf pd0_2 rfl) rfl (by show 2 * 0 + _ ≤ _; exact Nat.le_of_eq rfl) (hb hby at_179) (fun _ _ => ⟨rfl, eq_127, (by decide : 9 + 0 ≤ _), (by decide : 56 + 0 ≤ _)⟩)
        dsimp only [Pt.U, Pt.locs, Pt.cells, Pt.slots] at X_128 l_128 y_128 z_128 st_128 hQ_128
        subst l_128 y_128 z_128
        refine own_tr st_128 ?_
        obtain ⟨rfl, Nq_128, eq_128⟩ := hQ_128
        have N_128 := Fr.app N_127 Nq_128
        show own_Go p e below _ T_128 (mkF m 182 #[.val (.int x0), .val (.int x1), .val (.int x2), .val (.int x3), .val (.int x4), .val (.int (0 : Int32)), .val (.ref a_3), .val (.ref a_34), .val (.ref la_77), .val (.ref a_90), .val (.ref a_34), .val (.ref a_3), .val (.ref a_34), .val (.ref a_3)] [(.ref a_3)])
        refine own_aload X_128 hx (hb hby at_182) (pc' := 184) rfl rfl rfl ?_
        refine own_acmpN X_128 hx rfl rfl (hb hby at_184) (XT.aa_ne_f rfl) (pc' := 187) rfl ?_
        refine own_aload X_128 hx (hb hby at_187) (pc' := 189) rfl rfl rfl ?_
        obtain ⟨cq_129, kq_129, qa_129, qb_129, qc_129⟩ := isOf hZ eq_128 A_125
        obtain ⟨_, _, ⟨T_129, L_129, k_129, n_129⟩, -, X_129, ⟨Lc_129, hQ_129, l_129, y_129, z_129⟩, st_129⟩ := X_128.virtualBack hx  (y := (⟨"com/example/muster/muster/role/RoleRelation", "getNamedId", "()Ljava/lang/String;"⟩ : MethodName)) (z := (⟨"com/example/muster/muster/role/RoleRelation", "getNamedId", "()Ljava/lang/String;"⟩ : MethodName)) hown (mvT hZ (hw _ (List.mem_of_getElem? (i := 67) rfl))) (mvT hZ (hw _ (List.mem_of_getElem? (i := 68) rfl))) (notFace_of_selects (args := #[]) (mvT hZ (hw _ (List.mem_of_getElem? (i := 70) rfl)))) (mvT hZ (hw _ (List.mem_of_getElem? (i := 70) rfl))) (mvT hZ (hw _ (List.mem_of_getElem? (i := 69) rfl))) (by decide) (backOf (W := 0) (rm5 l Z a0 hw [] a_90 (.ref a_34) T_109.heap n0 Z_113 F_111 rfl) hZ (hw _ (List.mem_of_getElem? (i := 71) rfl)) (hw _ (List.mem_of_getElem? (i := 35) rfl)) (by decide) (by decide)) qa_129 qc_129 (g := (mkF m 189 #[.val (.int x0), .val (.int x1), .val (.int x2), .val (.int x3), .val (.int x4), .val (.int (0 : Int32)), .val (.ref a_3), .val (.ref a_34), .val (.ref la_77), .val (.ref a_90), .val (.ref a_34), .val (.ref a_3), .val (.ref a_34), .val (.ref a_3)] [(.ref a_90)])) rfl (by rw [hml]; rfl) (Steps.refl _) (argsL := []) (rest := []) (lenOf pd0_2 rfl) rfl (by show 2 * 0 + _ ≤ _; exact Nat.le_of_eq rfl) (hb hby at_189) (fun _ _ => ⟨rfl, eq_128, (by decide : 9 + 0 ≤ _), (by decide : 56 + 0 ≤ _)⟩)
        dsimp only [Pt.U, Pt.locs, Pt.cells, Pt.slots] at X_129 l_129 y_129 z_129 st_129 hQ_129
        subst l_129 y_129 z_129
        refine own_tr st_129 ?_
        obtain ⟨rfl, Nq_129, eq_129⟩ := hQ_129
        have N_129 := Fr.app N_128 Nq_129
        show own_Go p e below _ T_129 (mkF m 192 #[.val (.int x0), .val (.int x1), .val (.int x2), .val (.int x3), .val (.int x4), .val (.int (0 : Int32)), .val (.ref a_3), .val (.ref a_34), .val (.ref la_77), .val (.ref a_90), .val (.ref a_34), .val (.ref a_3), .val (.ref a_34), .val (.ref a_3)] [(.ref a_34)])
        refine own_aload X_129 hx (hb hby at_192) (pc' := 194) rfl rfl rfl ?_
        refine own_acmpN X_129 hx rfl rfl (hb hby at_194) (XT.aa_ne_f rfl) (pc' := 197) rfl ?_
        refine own_iconst X_129 hx (1) (hb hby at_197) (pc' := 198) rfl rfl ?_
        refine own_goto X_129 hx (hb hby at_198) (pc' := 202) (by decide) (by decide) ?_
        refine own_retZW X_129 hS (by rw [eq_129]; exact K1_113) hx hlk Bd.returns (by simp) (hb hby at_202) (by decide) (by decide) ?_
        exact ⟨rfl, N_129⟩
      · skip
        refine own_ifN X_29 hx (hb hby at_59) (XT.i0_eq_f c_33) (pc' := 62) rfl ?_
        refine own_null X_29 hx (hb hby at_62) (pc' := 63) rfl ?_
        refine own_goto X_29 hx (hb hby at_63) (pc' := 85) (by decide) (by decide) ?_
        refine own_astore X_29 hx (hb hby at_85) (pc' := 87) (Ls' := #[.val (.int x0), .val (.int x1), .val (.int x2), .val (.int x3), .val (.int x4), .val (.int (0 : Int32)), .val (.ref a_3), .val (.null), .unset, .unset, .unset, .unset, .unset, .unset]) rfl rfl rfl ?_
        refine own_iload X_29 hx (hb hby at_87) (pc' := 89) rfl rfl ?_
        refine own_ifY X_29 hx (hb hby at_89) (by decide) (pc' := 97) (by decide) (by decide) ?_
        obtain ⟨la_130, T_130, h_130, kn_130, X_130, e_130, E_130, hS, hkn_130, hZ, hown, st_130⟩ := ldcS X_29 hx hZ hown (hw _ (List.mem_of_getElem? (i := 30) rfl)) own_wS rfl hS K1_30 (g := (mkF m 97 #[.val (.int x0), .val (.int x1), .val (.int x2), .val (.int x3), .val (.int x4), .val (.int (0 : Int32)), .val (.ref a_3), .val (.null), .unset, .unset, .unset, .unset, .unset, .unset] [])) rfl (hb hby at_97) (n := 32) (by decide) (by decide) (by decide) (by decide)
        have A_132 : Exa Z h_130 a_3 "java/lang/String" := A_q29.ext E_130
        have F_133 : Fld Z h_130 a_3 "java/lang/String" "coder" "B" (.int 0) := F_c29.ext E_130
        have F_134 : Fld Z h_130 a_3 "java/lang/String" "value" "[B" (.ref t_29) := F_v29.ext E_130
        have V_135 : Arv Z h_130 t_29 kb_29 .byte (2 : Int32) ((([(nar .char (nar .char (x0 &&& (255 : Int32)))), (nar .char (nar .char ((XT.ushr x0 (8 : Int32)) &&& (255 : Int32))))] : List Int32).map (fun c => c.toInt8.toInt32)).map Value.int) (.int 0) := V_b29.ext E_130
        have V_136 : Arv Z h_130 a_8 kc_8 .char (2 : Int32) [(.int (nar .char (nar .char (x0 &&& (255 : Int32))))), (.int (nar .char (nar .char ((XT.ushr x0 (8 : Int32)) &&& (255 : Int32)))))] (.int (0 : Int32)) := V_31.ext E_130
        have O_137 : Old Z n0 h_130 := O_32.ext E_130
        have Z_131 : n0 ≤ h_130.size := Nat.le_trans Z_30 E_130.1
        refine own_st st_130 ?_
        show own_Go p e below _ T_130 (mkF m 99 #[.val (.int x0), .val (.int x1), .val (.int x2), .val (.int x3), .val (.int x4), .val (.int (0 : Int32)), .val (.ref a_3), .val (.null), .unset, .unset, .unset, .unset, .unset, .unset] [(.ref la_130)])
        refine own_astore X_130 hx (hb hby at_99) (pc' := 101) (Ls' := #[.val (.int x0), .val (.int x1), .val (.int x2), .val (.int x3), .val (.int x4), .val (.int (0 : Int32)), .val (.ref a_3), .val (.null), .val (.ref la_130), .unset, .unset, .unset, .unset, .unset]) rfl rfl rfl ?_
        obtain ⟨T_138, h_138, X_138, e_138, E_138, A_138, D_138, -, st_138⟩ := newO X_130 hx hZ hown (hw _ (List.mem_of_getElem? (i := 33) rfl)) (hw _ (List.mem_of_getElem? (i := 34) rfl)) (hw _ (List.mem_of_getElem? (i := 35) rfl)) e_130 (g := (mkF m 101 #[.val (.int x0), .val (.int x1), .val (.int x2), .val (.int x3), .val (.int x4), .val (.int (0 : Int32)), .val (.ref a_3), .val (.null), .val (.ref la_130), .unset, .unset, .unset, .unset, .unset] [])) rfl (hb hby at_101) (by decide) (by decide)
        obtain ⟨a_138, g_138⟩ : ∃ z, z = h_130.size := ⟨_, rfl⟩
        rw [← g_138] at A_138 D_138 st_138
        have ge_138 : n0 ≤ a_138 := Nat.le_trans Z_131 (Nat.le_of_eq g_138.symm)
        have ne_138_a_3 : a_3 ≠ a_138 := Nat.ne_of_lt (Nat.lt_of_lt_of_eq A_132.lt g_138.symm)
        have ne_138_t_29 : t_29 ≠ a_138 := Nat.ne_of_lt (Nat.lt_of_lt_of_eq V_135.lt g_138.symm)
        have ne_138_a_8 : a_8 ≠ a_138 := Nat.ne_of_lt (Nat.lt_of_lt_of_eq V_136.lt g_138.symm)
        have A_140 : Exa Z h_138 a_3 "java/lang/String" := A_132.ext E_138
        have F_141 : Fld Z h_138 a_3 "java/lang/String" "coder" "B" (.int 0) := F_133.ext E_138
        have F_142 : Fld Z h_138 a_3 "java/lang/String" "value" "[B" (.ref t_29) := F_134.ext E_138
        have V_143 : Arv Z h_138 t_29 kb_29 .byte (2 : Int32) ((([(nar .char (nar .char (x0 &&& (255 : Int32)))), (nar .char (nar .char ((XT.ushr x0 (8 : Int32)) &&& (255 : Int32))))] : List Int32).map (fun c => c.toInt8.toInt32)).map Value.int) (.int 0) := V_135.ext E_138
        have V_144 : Arv Z h_138 a_8 kc_8 .char (2 : Int32) [(.int (nar .char (nar .char (x0 &&& (255 : Int32))))), (.int (nar .char (nar .char ((XT.ushr x0 (8 : Int32)) &&& (255 : Int32)))))] (.int (0 : Int32)) := V_136.ext E_138
        have O_145 : Old Z n0 h_138 := O_137.ext E_138
        have Z_139 : n0 ≤ h_138.size := Nat.le_trans Z_131 E_138.1
        have K1_139 := Nat.le_trans hkn_130 E_138.1
        have F_146 : Fld Z h_138 a_138 "com/example/muster/muster/role/RoleRelation" "roleId" "Ljava/lang/String;" (.null) := D_138 (Or.inr (hw _ (List.mem_of_getElem? (i := 41) rfl))) (ty := (.object "java/lang/String")) (by decide)
        have F_147 : Fld Z h_138 a_138 "com/example/muster/muster/role/RoleRelation" "namedId" "Ljava/lang/String;" (.null) := D_138 (Or.inr (hw _ (List.mem_of_getElem? (i := 43) rfl))) (ty := (.object "java/lang/String")) (by decide)
        have F_148 : Fld Z h_138 a_138 "com/example/muster/muster/role/RoleRelation" "namesParent" "Z" (.int (0 : Int32)) := D_138 (Or.inr (hw _ (List.mem_of_getElem? (i := 45) rfl))) (ty := .boolean) (by decide)
        have F_149 : Fld Z h_138 a_138 "com/example/muster/muster/role/RoleRelation" "element" "Ljava/lang/String;" (.null) := D_138 (Or.inr (hw _ (List.mem_of_getElem? (i := 47) rfl))) (ty := (.object "java/lang/String")) (by decide)
        have F_150 : Fld Z h_138 a_138 "com/example/muster/muster/role/RoleRelation" "line" "I" (.int (0 : Int32)) := D_138 (Or.inr (hw _ (List.mem_of_getElem? (i := 49) rfl))) (ty := .int) (by decide)
        have F_151 : Fld Z h_138 a_138 "com/example/muster/muster/role/RoleRelation" "column" "I" (.int (0 : Int32)) := D_138 (Or.inr (hw _ (List.mem_of_getElem? (i := 51) rfl))) (ty := .int) (by decide)
        refine own_st st_138 ?_
        show own_Go p e below _ T_138 (mkF m 104 #[.val (.int x0), .val (.int x1), .val (.int x2), .val (.int x3), .val (.int x4), .val (.int (0 : Int32)), .val (.ref a_3), .val (.null), .val (.ref la_130), .unset, .unset, .unset, .unset, .unset] [(.ref a_138)])
        refine own_dup X_138 hx (hb hby at_104) (pc' := 105) rfl rfl ?_
        refine own_aload X_138 hx (hb hby at_105) (pc' := 107) rfl rfl rfl ?_
        refine own_aload X_138 hx (hb hby at_107) (pc' := 109) rfl rfl rfl ?_
        refine own_iload X_138 hx (hb hby at_109) (pc' := 111) rfl rfl ?_
        refine own_aload X_138 hx (hb hby at_111) (pc' := 113) rfl rfl rfl ?_
        refine own_iloadN X_138 hx (hb hby at_113) (pc' := 114) rfl rfl ?_
        refine own_iload X_138 hx (hb hby at_114) (pc' := 116) rfl rfl ?_
        obtain ⟨_, _, ⟨T_152, L_152, k_152, n_152⟩, -, X_152, ⟨Lc_152, hQ_152, l_152, y_152, z_152⟩, st_152⟩ := X_138.specialBack hx  (y := (⟨"com/example/muster/muster/role/RoleRelation", "<init>", "(Ljava/lang/String;Ljava/lang/String;ZLjava/lang/String;II)V"⟩ : MethodName)) rfl hown (mvT hZ (hw _ (List.mem_of_getElem? (i := 36) rfl))) (mvT hZ (hw _ (List.mem_of_getElem? (i := 37) rfl))) (mvT hZ (hw _ (List.mem_of_getElem? (i := 38) rfl))) (by decide) (backOf (W := 1) (rm1 l Z a0 hw [] a_138 (.ref a_3) (.null) (0 : Int32) la_130 x3 x4 h_138 n0 Z_139 rfl rfl A_138 F_146 F_147 F_148 F_149 F_150 F_151 ge_138 rfl rfl) hZ (hw _ (List.mem_of_getElem? (i := 38) rfl)) (hw _ (List.mem_of_getElem? (i := 35) rfl)) (by decide) (by decide)) (g := (mkF m 116 #[.val (.int x0), .val (.int x1), .val (.int x2), .val (.int x3), .val (.int x4), .val (.int (0 : Int32)), .val (.ref a_3), .val (.null), .val (.ref la_130), .unset, .unset, .unset, .unset, .unset] [(.int x4), (.int x3), (.ref la_130), (.int (0 : Int32)), (.null), (.ref a_3), (.ref a_138), (.ref a_138)])) rfl (by rw [hml]; rfl) (Steps.refl _) (a := a_138) (argsL := [(.ref a_3), (.null), (.int (0 : Int32)), (.ref la_130), (.int x3), (.int x4)]) (rest := [(.ref a_138)]) (lenOf pd0_1 rfl) rfl (by show 2 * 0 + _ ≤ _; exact Nat.le_of_eq rfl) (hb hby at_116) (fun _ _ => ⟨rfl, e_138, (by decide : 6 + 0 ≤ _), (by decide : 50 + 0 ≤ _)⟩)
        dsimp only [Pt.U, Pt.locs, Pt.cells, Pt.slots] at X_152 l_152 y_152 z_152 st_152 hQ_152
        subst l_152 y_152 z_152
        refine own_tr st_152 ?_
        obtain ⟨rfl, Nq_152, Kq_152, q0_152, q1_152, q2_152⟩ := hQ_152
        have N_152 := Fr.app N_29 Nq_152
        have F_153 : Fld Z T_152.heap a_138 "com/example/muster/muster/role/RoleRelation" "roleId" "Ljava/lang/String;" (.ref a_3) := q0_152
        have F_154 : Fld Z T_152.heap a_138 "com/example/muster/muster/role/RoleRelation" "namedId" "Ljava/lang/String;" (.null) := q1_152
        have F_155 : Fld Z T_152.heap a_138 "com/example/muster/muster/role/RoleRelation" "namesParent" "Z" (.int (0 : Int32)) := q2_152
        have A_157 : Exa Z T_152.heap a_3 "java/lang/String" := A_140.keep Kq_152
        have F_158 : Fld Z T_152.heap a_3 "java/lang/String" "coder" "B" (.int 0) := F_141.keep Kq_152 (ninS ne_138_a_3 nin0)
        have F_159 : Fld Z T_152.heap a_3 "java/lang/String" "value" "[B" (.ref t_29) := F_142.keep Kq_152 (ninS ne_138_a_3 nin0)
        have V_160 : Arv Z T_152.heap t_29 kb_29 .byte (2 : Int32) ((([(nar .char (nar .char (x0 &&& (255 : Int32)))), (nar .char (nar .char ((XT.ushr x0 (8 : Int32)) &&& (255 : Int32))))] : List Int32).map (fun c => c.toInt8.toInt32)).map Value.int) (.int 0) := V_143.keep Kq_152 (ninS ne_138_t_29 nin0)
        have V_161 : Arv Z T_152.heap a_8 kc_8 .char (2 : Int32) [(.int (nar .char (nar .char (x0 &&& (255 : Int32))))), (.int (nar .char (nar .char ((XT.ushr x0 (8 : Int32)) &&& (255 : Int32)))))] (.int (0 : Int32)) := V_144.keep Kq_152 (ninS ne_138_a_8 nin0)
        have O_162 : Old Z n0 T_152.heap := O_145.keep Kq_152 (allS ge_138 all0)
        have A_163 : Exa Z T_152.heap a_138 "com/example/muster/muster/role/RoleRelation" := A_138.keep Kq_152
        have Z_156 : n0 ≤ T_152.heap.size := Nat.le_trans Z_139 Kq_152.1
        have K1_156 := Nat.le_trans K1_139 Kq_152.1
        show own_Go p e below _ T_152 (mkF m 119 #[.val (.int x0), .val (.int x1), .val (.int x2), .val (.int x3), .val (.int x4), .val (.int (0 : Int32)), .val (.ref a_3), .val (.null), .val (.ref la_130), .unset, .unset, .unset, .unset, .unset] [(.ref a_138)])
        refine own_astore X_152 hx (hb hby at_119) (pc' := 121) (Ls' := #[.val (.int x0), .val (.int x1), .val (.int x2), .val (.int x3), .val (.int x4), .val (.int (0 : Int32)), .val (.ref a_3), .val (.null), .val (.ref la_130), .val (.ref a_138), .unset, .unset, .unset, .unset]) rfl rfl rfl ?_
        refine own_aload X_152 hx (hb hby at_121) (pc' := 123) rfl rfl rfl ?_
        obtain ⟨cq_164, kq_164, qa_164, qb_164, qc_164⟩ := isOf hZ rfl A_163
        obtain ⟨_, _, ⟨T_164, L_164, k_164, n_164⟩, -, X_164, ⟨Lc_164, hQ_164, l_164, y_164, z_164⟩, st_164⟩ := X_152.virtualBack hx  (y := (⟨"com/example/muster/muster/role/RoleRelation", "getChildId", "()Ljava/lang/String;"⟩ : MethodName)) (z := (⟨"com/example/muster/muster/role/RoleRelation", "getChildId", "()Ljava/lang/String;"⟩ : MethodName)) hown (mvT hZ (hw _ (List.mem_of_getElem? (i := 52) rfl))) (mvT hZ (hw _ (List.mem_of_getElem? (i := 53) rfl))) (notFace_of_selects (args := #[]) (mvT hZ (hw _ (List.mem_of_getElem? (i := 55) rfl)))) (mvT hZ (hw _ (List.mem_of_getElem? (i := 55) rfl))) (mvT hZ (hw _ (List.mem_of_getElem? (i := 54) rfl))) (by decide) (backOf (W := 0) (rm3 l Z a0 hw [] a_138 (.ref a_3) (.null) (0 : Int32) T_152.heap n0 Z_156 F_153 F_154 F_155 rfl rfl) hZ (hw _ (List.mem_of_getElem? (i := 56) rfl)) (hw _ (List.mem_of_getElem? (i := 35) rfl)) (by decide) (by decide)) qa_164 qc_164 (g := (mkF m 123 #[.val (.int x0), .val (.int x1), .val (.int x2), .val (.int x3), .val (.int x4), .val (.int (0 : Int32)), .val (.ref a_3), .val (.null), .val (.ref la_130), .val (.ref a_138), .unset, .unset, .unset, .unset] [(.ref a_138)])) rfl (by rw [hml]; rfl) (Steps.refl _) (argsL := []) (rest := []) (lenOf pd0_2 rfl) rfl (by show 2 * 0 + _ ≤ _; exact Nat.le_of_eq rfl) (hb hby at_123) (fun _ _ => ⟨rfl, rfl, (by decide : 6 + 0 ≤ _), (by decide : 50 + 0 ≤ _)⟩)
        dsimp only [Pt.U, Pt.locs, Pt.cells, Pt.slots] at X_164 l_164 y_164 z_164 st_164 hQ_164
        subst l_164 y_164 z_164
        refine own_tr st_164 ?_
        obtain ⟨rfl, Nq_164, eq_164⟩ := hQ_164
        have N_164 := Fr.app N_152 Nq_164
        dsimp only [Option.toList, List.cons_append, List.nil_append]
        rw [if_pos (by decide)]
        show own_Go p e below _ T_164 (mkF m 126 #[.val (.int x0), .val (.int x1), .val (.int x2), .val (.int x3), .val (.int x4), .val (.int (0 : Int32)), .val (.ref a_3), .val (.null), .val (.ref la_130), .val (.ref a_138), .unset, .unset, .unset, .unset] [(.null)])
        refine own_astore X_164 hx (hb hby at_126) (pc' := 128) (Ls' := #[.val (.int x0), .val (.int x1), .val (.int x2), .val (.int x3), .val (.int x4), .val (.int (0 : Int32)), .val (.ref a_3), .val (.null), .val (.ref la_130), .val (.ref a_138), .val (.null), .unset, .unset, .unset]) rfl rfl rfl ?_
        refine own_aload X_164 hx (hb hby at_128) (pc' := 130) rfl rfl rfl ?_
        obtain ⟨cq_165, kq_165, qa_165, qb_165, qc_165⟩ := isOf hZ eq_164 A_163
        obtain ⟨_, _, ⟨T_165, L_165, k_165, n_165⟩, -, X_165, ⟨Lc_165, hQ_165, l_165, y_165, z_165⟩, st_165⟩ := X_164.virtualBack hx  (y := (⟨"com/example/muster/muster/role/RoleRelation", "getParentId", "()Ljava/lang/String;"⟩ : MethodName)) (z := (⟨"com/example/muster/muster/role/RoleRelation", "getParentId", "()Ljava/lang/String;"⟩ : MethodName)) hown (mvT hZ (hw _ (List.mem_of_getElem? (i := 57) rfl))) (mvT hZ (hw _ (List.mem_of_getElem? (i := 58) rfl))) (notFace_of_selects (args := #[]) (mvT hZ (hw _ (List.mem_of_getElem? (i := 60) rfl)))) (mvT hZ (hw _ (List.mem_of_getElem? (i := 60) rfl))) (mvT hZ (hw _ (List.mem_of_getElem? (i := 59) rfl))) (by decide) (backOf (W := 0) (rm2 l Z a0 hw [] a_138 (.ref a_3) (.null) (0 : Int32) T_152.heap n0 Z_156 F_153 F_154 F_155 rfl rfl) hZ (hw _ (List.mem_of_getElem? (i := 61) rfl)) (hw _ (List.mem_of_getElem? (i := 35) rfl)) (by decide) (by decide)) qa_165 qc_165 (g := (mkF m 130 #[.val (.int x0), .val (.int x1), .val (.int x2), .val (.int x3), .val (.int x4), .val (.int (0 : Int32)), .val (.ref a_3), .val (.null), .val (.ref la_130), .val (.ref a_138), .val (.null), .unset, .unset, .unset] [(.ref a_138)])) rfl (by rw [hml]; rfl) (Steps.refl _) (argsL := []) (rest := []) (lenOf pd0_2 rfl) rfl (by show 2 * 0 + _ ≤ _; exact Nat.le_of_eq rfl) (hb hby at_130) (fun _ _ => ⟨rfl, eq_164, (by decide : 6 + 0 ≤ _), (by decide : 50 + 0 ≤ _)⟩)
        dsimp only [Pt.U, Pt.locs, Pt.cells, Pt.slots] at X_165 l_165 y_165 z_165 st_165 hQ_165
        subst l_165 y_165 z_165
        refine own_tr st_165 ?_
        obtain ⟨rfl, Nq_165, eq_165⟩ := hQ_165
        have N_165 := Fr.app N_164 Nq_165
        dsimp only [Option.toList, List.cons_append, List.nil_append]
        rw [if_pos (by decide)]
        show own_Go p e below _ T_165 (mkF m 133 #[.val (.int x0), .val (.int x1), .val (.int x2), .val (.int x3), .val (.int x4), .val (.int (0 : Int32)), .val (.ref a_3), .val (.null), .val (.ref la_130), .val (.ref a_138), .val (.null), .unset, .unset, .unset] [(.ref a_3)])
        refine own_astore X_165 hx (hb hby at_133) (pc' := 135) (Ls' := #[.val (.int x0), .val (.int x1), .val (.int x2), .val (.int x3), .val (.int x4), .val (.int (0 : Int32)), .val (.ref a_3), .val (.null), .val (.ref la_130), .val (.ref a_138), .val (.null), .val (.ref a_3), .unset, .unset]) rfl rfl rfl ?_
        refine own_iload X_165 hx (hb hby at_135) (pc' := 137) rfl rfl ?_
        refine own_ifY X_165 hx (hb hby at_137) (by decide) (pc' := 145) (by decide) (by decide) ?_
        refine own_aload X_165 hx (hb hby at_145) (pc' := 147) rfl rfl rfl ?_
        refine own_astore X_165 hx (hb hby at_147) (pc' := 149) (Ls' := #[.val (.int x0), .val (.int x1), .val (.int x2), .val (.int x3), .val (.int x4), .val (.int (0 : Int32)), .val (.ref a_3), .val (.null), .val (.ref la_130), .val (.ref a_138), .val (.null), .val (.ref a_3), .val (.null), .unset]) rfl rfl rfl ?_
        refine own_iload X_165 hx (hb hby at_149) (pc' := 151) rfl rfl ?_
        refine own_ifY X_165 hx (hb hby at_151) (by decide) (pc' := 159) (by decide) (by decide) ?_
        refine own_aload X_165 hx (hb hby at_159) (pc' := 161) rfl rfl rfl ?_
        refine own_astore X_165 hx (hb hby at_161) (pc' := 163) (Ls' := #[.val (.int x0), .val (.int x1), .val (.int x2), .val (.int x3), .val (.int x4), .val (.int (0 : Int32)), .val (.ref a_3), .val (.null), .val (.ref la_130), .val (.ref a_138), .val (.null), .val (.ref a_3), .val (.null), .val (.ref a_3)]) rfl rfl rfl ?_
        refine own_aload X_165 hx (hb hby at_163) (pc' := 165) rfl rfl rfl ?_
        refine own_aload X_165 hx (hb hby at_165) (pc' := 167) rfl rfl rfl ?_
        refine own_acmpN X_165 hx rfl rfl (hb hby at_167) (XT.aa_ne_f rfl) (pc' := 170) rfl ?_
        refine own_aload X_165 hx (hb hby at_170) (pc' := 172) rfl rfl rfl ?_
        refine own_aload X_165 hx (hb hby at_172) (pc' := 174) rfl rfl rfl ?_
        refine own_acmpN X_165 hx rfl rfl (hb hby at_174) (XT.aa_ne_f rfl) (pc' := 177) rfl ?_
        refine own_aload X_165 hx (hb hby at_177) (pc' := 179) rfl rfl rfl ?_
        obtain ⟨cq_166, kq_166, qa_166, qb_166, qc_166⟩ := isOf hZ eq_165 A_163
        obtain ⟨_, _, ⟨T_166, L_166, k_166, n_166⟩, -, X_166, ⟨Lc_166, hQ_166, l_166, y_166, z_166⟩, st_166⟩ := X_165.virtualBack hx  (y := (⟨"com/example/muster/muster/role/RoleRelation", "getRoleId", "()Ljava/lang/String;"⟩ : MethodName)) (z := (⟨"com/example/muster/muster/role/RoleRelation", "getRoleId", "()Ljava/lang/String;"⟩ : MethodName)) hown (mvT hZ (hw _ (List.mem_of_getElem? (i := 62) rfl))) (mvT hZ (hw _ (List.mem_of_getElem? (i := 63) rfl))) (notFace_of_selects (args := #[]) (mvT hZ (hw _ (List.mem_of_getElem? (i := 65) rfl)))) (mvT hZ (hw _ (List.mem_of_getElem? (i := 65) rfl))) (mvT hZ (hw _ (List.mem_of_getElem? (i := 64) rfl))) (by decide) (backOf (W := 0) (rm4 l Z a0 hw [] a_138 (.ref a_3) T_152.heap n0 Z_156 F_153 rfl) hZ (hw _ (List.mem_of_getElem? (i := 66) rfl)) (hw _ (List.mem_of_getElem? (i := 35) rfl)) (by decide) (by decide)) qa_166 qc_166 (g := (mkF m 179 #[.val (.int x0), .val (.int x1), .val (.int x2), .val (.int x3), .val (.int x4), .val (.int (0 : Int32)), .val (.ref a_3), .val (.null), .val (.ref la_130), .val (.ref a_138), .val (.null), .val (.ref a_3), .val (.null), .val (.ref a_3)] [(.ref a_138)])) rfl (by rw [hml]; rfl) (Steps.refl _) (argsL := []) (rest := []) (lenOf pd0_2 rfl) rfl (by show 2 * 0 + _ ≤ _; exact Nat.le_of_eq rfl) (hb hby at_179) (fun _ _ => ⟨rfl, eq_165, (by decide : 6 + 0 ≤ _), (by decide : 50 + 0 ≤ _)⟩)
        dsimp only [Pt.U, Pt.locs, Pt.cells, Pt.slots] at X_166 l_166 y_166 z_166 st_166 hQ_166
        subst l_166 y_166 z_166
        refine own_tr st_166 ?_
        obtain ⟨rfl, Nq_166, eq_166⟩ := hQ_166
        have N_166 := Fr.app N_165 Nq_166
        show own_Go p e below _ T_166 (mkF m 182 #[.val (.int x0), .val (.int x1), .val (.int x2), .val (.int x3), .val (.int x4), .val (.int (0 : Int32)), .val (.ref a_3), .val (.null), .val (.ref la_130), .val (.ref a_138), .val (.null), .val (.ref a_3), .val (.null), .val (.ref a_3)] [(.ref a_3)])
        refine own_aload X_166 hx (hb hby at_182) (pc' := 184) rfl rfl rfl ?_
        refine own_acmpN X_166 hx rfl rfl (hb hby at_184) (XT.aa_ne_f rfl) (pc' := 187) rfl ?_
        refine own_aload X_166 hx (hb hby at_187) (pc' := 189) rfl rfl rfl ?_
        obtain ⟨cq_167, kq_167, qa_167, qb_167, qc_167⟩ := isOf hZ eq_166 A_163
        obtain ⟨_, _, ⟨T_167, L_167, k_167, n_167⟩, -, X_167, ⟨Lc_167, hQ_167, l_167, y_167, z_167⟩, st_167⟩ := X_166.virtualBack hx  (y := (⟨"com/example/muster/muster/role/RoleRelation", "getNamedId", "()Ljava/lang/String;"⟩ : MethodName)) (z := (⟨"com/example/muster/muster/role/RoleRelation", "getNamedId", "()Ljava/lang/String;"⟩ : MethodName)) hown (mvT hZ (hw _ (List.mem_of_getElem? (i := 67) rfl))) (mvT hZ (hw _ (List.mem_of_getElem? (i := 68) rfl))) (notFace_of_selects (args := #[]) (mvT hZ (hw _ (List.mem_of_getElem? (i := 70) rfl)))) (mvT hZ (hw _ (List.mem_of_getElem? (i := 70) rfl))) (mvT hZ (hw _ (List.mem_of_getElem? (i := 69) rfl))) (by decide) (backOf (W := 0) (rm5 l Z a0 hw [] a_138 (.null) T_152.heap n0 Z_156 F_154 rfl) hZ (hw _ (List.mem_of_getElem? (i := 71) rfl)) (hw _ (List.mem_of_getElem? (i := 35) rfl)) (by decide) (by decide)) qa_167 qc_167 (g := (mkF m 189 #[.val (.int x0), .val (.int x1), .val (.int x2), .val (.int x3), .val (.int x4), .val (.int (0 : Int32)), .val (.ref a_3), .val (.null), .val (.ref la_130), .val (.ref a_138), .val (.null), .val (.ref a_3), .val (.null), .val (.ref a_3)] [(.ref a_138)])) rfl (by rw [hml]; rfl) (Steps.refl _) (argsL := []) (rest := []) (lenOf pd0_2 rfl) rfl (by show 2 * 0 + _ ≤ _; exact Nat.le_of_eq rfl) (hb hby at_189) (fun _ _ => ⟨rfl, eq_166, (by decide : 6 + 0 ≤ _), (by decide : 50 + 0 ≤ _)⟩)
        dsimp only [Pt.U, Pt.locs, Pt.cells, Pt.slots] at X_167 l_167 y_167 z_167 st_167 hQ_167
        subst l_167 y_167 z_167
        refine own_tr st_167 ?_
        obtain ⟨rfl, Nq_167, eq_167⟩ := hQ_167
        have N_167 := Fr.app N_166 Nq_167
        show own_Go p e below _ T_167 (mkF m 192 #[.val (.int x0), .val (.int x1), .val (.int x2), .val (.int x3), .val (.int x4), .val (.int (0 : Int32)), .val (.ref a_3), .val (.null), .val (.ref la_130), .val (.ref a_138), .val (.null), .val (.ref a_3), .val (.null), .val (.ref a_3)] [(.null)])
        refine own_aload X_167 hx (hb hby at_192) (pc' := 194) rfl rfl rfl ?_
        refine own_acmpN X_167 hx rfl rfl (hb hby at_194) (XT.aa_ne_f rfl) (pc' := 197) rfl ?_
        refine own_iconst X_167 hx (1) (hb hby at_197) (pc' := 198) rfl rfl ?_
        refine own_goto X_167 hx (hb hby at_198) (pc' := 202) (by decide) (by decide) ?_
        refine own_retZW X_167 hS (by rw [eq_167]; exact K1_156) hx hlk Bd.returns (by simp) (hb hby at_202) (by decide) (by decide) ?_
        exact ⟨rfl, N_167⟩
    · skip
      refine own_ifN X0 hx (hb hby at_16) (XT.i0_eq_f c_2) (pc' := 19) rfl ?_
      refine own_null X0 hx (hb hby at_19) (pc' := 20) rfl ?_
      refine own_goto X0 hx (hb hby at_20) (pc' := 54) (by decide) (by decide) ?_
      refine own_astore X0 hx (hb hby at_54) (pc' := 56) (Ls' := #[.val (.int x0), .val (.int x1), .val (.int x2), .val (.int x3), .val (.int x4), .val (.int (0 : Int32)), .val (.null), .unset, .unset, .unset, .unset, .unset, .unset, .unset]) rfl rfl rfl ?_
      refine own_iloadN X0 hx (hb hby at_56) (pc' := 57) rfl rfl ?_
      refine own_iconst X0 hx (4) (hb hby at_57) (pc' := 58) rfl rfl ?_
      refine own_iand X0 hx (hb hby at_58) (pc' := 59) rfl ?_
      by_cases c_168 : (x2 &&& (4 : Int32)) = (0 : Int32)
      · skip
        refine own_ifY X0 hx (hb hby at_59) (XT.i0_eq_t c_168) (pc' := 66) (by decide) (by decide) ?_
        obtain ⟨T_169, h_169, X_169, e_169, E_169, A_169, D_169, -, st_169⟩ := newO X0 hx hZ hown (hw _ (List.mem_of_getElem? (i := 0) rfl)) (hw _ (List.mem_of_getElem? (i := 1) rfl)) (hw _ (List.mem_of_getElem? (i := 2) rfl)) e0 (g := (mkF m 66 #[.val (.int x0), .val (.int x1), .val (.int x2), .val (.int x3), .val (.int x4), .val (.int (0 : Int32)), .val (.null), .unset, .unset, .unset, .unset, .unset, .unset, .unset] [])) rfl (hb hby at_66) (by decide) (by decide)
        obtain ⟨a_169, g_169⟩ : ∃ z, z = h0.size := ⟨_, rfl⟩
        rw [← g_169] at A_169 D_169 st_169
        have ge_169 : n0 ≤ a_169 := Nat.le_trans Z0 (Nat.le_of_eq g_169.symm)
        have O_171 : Old Z n0 h_169 := O_a.ext E_169
        have Z_170 : n0 ≤ h_169.size := Nat.le_trans Z0 E_169.1
        have K1_170 := Nat.le_trans (Nat.le_refl _) E_169.1
        have F_172 : Fld Z h_169 a_169 "java/lang/String" "coder" "B" (.int (0 : Int32)) := D_169 (Or.inr (hw _ (List.mem_of_getElem? (i := 27) rfl))) (ty := .byte) (by decide)
        have F_173 : Fld Z h_169 a_169 "java/lang/String" "value" "[B" (.null) := D_169 (Or.inr (hw _ (List.mem_of_getElem? (i := 29) rfl))) (ty := (.array .byte)) (by decide)
        refine own_st st_169 ?_
        show own_Go p e below _ T_169 (mkF m 69 #[.val (.int x0), .val (.int x1), .val (.int x2), .val (.int x3), .val (.int x4), .val (.int (0 : Int32)), .val (.null), .unset, .unset, .unset, .unset, .unset, .unset, .unset] [(.ref a_169)])
        refine own_dup X_169 hx (hb hby at_69) (pc' := 70) rfl rfl ?_
        refine own_iconst X_169 hx (1) (hb hby at_70) (pc' := 71) rfl rfl ?_
        obtain ⟨T_174, h_174, kc_174, X_174, e_174, E_174, A_174, st_174⟩ := newP X_169 hx hZ (hw _ (List.mem_of_getElem? (i := 3) rfl)) e_169 (g := (mkF m 71 #[.val (.int x0), .val (.int x1), .val (.int x2), .val (.int x3), .val (.int x4), .val (.int (0 : Int32)), .val (.null), .unset, .unset, .unset, .unset, .unset, .unset, .unset] [(.int (1 : Int32)), (.ref a_169), (.ref a_169)])) rfl (hb hby at_71) rfl (by decide) (cap := 1) (by decide) (by decide) (by decide) (by decide)
        obtain ⟨a_174, g_174⟩ : ∃ z, z = h_169.size := ⟨_, rfl⟩
        rw [← g_174] at A_174 st_174
        have ge_174 : n0 ≤ a_174 := Nat.le_trans Z_170 (Nat.le_of_eq g_174.symm)
        have ne_174_a_169 : a_169 ≠ a_174 := Nat.ne_of_lt (Nat.lt_of_lt_of_eq A_169.lt g_174.symm)
        have O_176 : Old Z n0 h_174 := O_171.ext E_174
        have A_177 : Exa Z h_174 a_169 "java/lang/String" := A_169.ext E_174
        have F_178 : Fld Z h_174 a_169 "java/lang/String" "coder" "B" (.int (0 : Int32)) := F_172.ext E_174
        have F_179 : Fld Z h_174 a_169 "java/lang/String" "value" "[B" (.null) := F_173.ext E_174
        have Z_175 : n0 ≤ h_174.size := Nat.le_trans Z_170 E_174.1
        have K1_175 := Nat.le_trans K1_170 E_174.1
        have V_180 : Arv Z h_174 a_174 kc_174 .char (1 : Int32) [(.int (0 : Int32))] (.int (0 : Int32)) := (Arv.new A_174 (by decide)).pad (pad_rep [] (.int (0 : Int32)) 1)
        refine own_st st_174 ?_
        show own_Go p e below _ T_174 (mkF m 73 #[.val (.int x0), .val (.int x1), .val (.int x2), .val (.int x3), .val (.int x4), .val (.int (0 : Int32)), .val (.null), .unset, .unset, .unset, .unset, .unset, .unset, .unset] [(.ref a_174), (.ref a_169), (.ref a_169)])
        refine own_dup X_174 hx (hb hby at_73) (pc' := 74) rfl rfl ?_
        refine own_iconst X_174 hx (0) (hb hby at_74) (pc' := 75) rfl rfl ?_
        refine own_iloadN X_174 hx (hb hby at_75) (pc' := 76) rfl rfl ?_
        refine own_sipush X_174 hx (255) (hb hby at_76) (pc' := 79) rfl (by decide) ?_
        refine own_iand X_174 hx (hb hby at_79) (pc' := 80) rfl ?_
        refine own_i2c X_174 hx (hb hby at_80) (pc' := 81) rfl ?_
        obtain ⟨T_181, h_181, X_181, e_181, W_181, V_181, st_181⟩ := own_castore X_174 hx hZ e_174 V_180 0 (x := (nar .char (x1 &&& (255 : Int32)))) (j := (0 : Int32)) (Ls := #[.val (.int x0), .val (.int x1), .val (.int x2), .val (.int x3), .val (.int x4), .val (.int (0 : Int32)), .val (.null), .unset, .unset, .unset, .unset, .unset, .unset, .unset]) (st := [(.ref a_174), (.ref a_169), (.ref a_169)]) ⟨by decide, by decide⟩ rfl (Nat.le_of_ble_eq_true rfl) (hb hby at_81)
        have V_182 : Arv Z h_181 a_174 kc_174 .char (1 : Int32) [(.int (nar .char (nar .char (x1 &&& (255 : Int32)))))] (.int (0 : Int32)) := V_181
        have O_184 : Old Z n0 h_181 := O_176.wr W_181 ge_174
        have A_185 : Exa Z h_181 a_169 "java/lang/String" := A_177.wr W_181
        have F_186 : Fld Z h_181 a_169 "java/lang/String" "coder" "B" (.int (0 : Int32)) := F_178.other W_181 (Or.inl ne_174_a_169)
        have F_187 : Fld Z h_181 a_169 "java/lang/String" "value" "[B" (.null) := F_179.other W_181 (Or.inl ne_174_a_169)
        have Z_183 : n0 ≤ h_181.size := by rw [W_181.size]; exact Z_175
        have K1_183 := Nat.le_trans K1_175 (Nat.le_of_eq W_181.size.symm)
        have N_181 := Fr.snoc X_181 N0 ge_174
        refine own_st st_181 ?_
        show own_Go p e below _ T_181 (mkF m 82 #[.val (.int x0), .val (.int x1), .val (.int x2), .val (.int x3), .val (.int x4), .val (.int (0 : Int32)), .val (.null), .unset, .unset, .unset, .unset, .unset, .unset, .unset] [(.ref a_174), (.ref a_169), (.ref a_169)])
        have hws_188 : ∀ d ∈ StrChars.Road.words, d.before a0 Z = true := fun d hd => hw d ((by decide +kernel : ∀ d ∈ StrChars.Road.words, d ∈ tables_1) d hd)
        have hp_188 : ∀ c ∈ ([(nar .char (nar .char (x1 &&& (255 : Int32))))] : List Int32), ¬ c < 0 ∧ ¬ (255 : Int32) < c := by
          intro c hc
          simp only [List.mem_cons, List.not_mem_nil, or_false] at hc
          rcases hc with rfl <;> exact own_ch255 _
        obtain ⟨_, _, ⟨T_188, L_188, k_188, n_188⟩, -, X_188, ⟨Lc_188, hQ_188, l_188, y_188, z_188⟩, st_188⟩ := X_181.specialBack hx (y := (⟨"java/lang/String", "<init>", "([C)V"⟩ : MethodName)) rfl hown (mvT hZ (hw _ (List.mem_of_getElem? (i := 4) rfl))) (mvT hZ (hw _ (List.mem_of_getElem? (i := 5) rfl))) (mvT hZ (hw _ (List.mem_of_getElem? (i := 6) rfl))) (by decide) (StrChars.Road.backV (W := 1) hZ hws_188 (kI := 4) (hw _ (List.mem_of_getElem? (i := 1) rfl)) (cs := ([(nar .char (nar .char (x1 &&& (255 : Int32))))] : List Int32)) (bs := ([(nar .char (nar .char (x1 &&& (255 : Int32))))] : List Int32).map (fun c => c.toInt8.toInt32)) (n := 1) ge_169 Z_183 A_185 F_187 F_186 V_182 (Sz.ext O_184.2) Pz rfl rfl (by decide) (by decide) hp_188 rfl (by decide) (by decide)) (g := (mkF m 82 #[.val (.int x0), .val (.int x1), .val (.int x2), .val (.int x3), .val (.int x4), .val (.int (0 : Int32)), .val (.null), .unset, .unset, .unset, .unset, .unset, .unset, .unset] [(.ref a_174), (.ref a_169), (.ref a_169)])) rfl (by rw [hml]; rfl) (Steps.refl _) (a := a_169) (argsL := [(.ref a_174)]) (rest := [(.ref a_169)]) (lenOf pd0_0 rfl) rfl (by show 2 * 0 + _ ≤ _; exact Nat.le_of_eq rfl) (hb hby at_82) (fun _ _ => ⟨rfl, e_181, (by decide : 2 + 1 ≤ _), (by decide : 5 + 1 ≤ _)⟩)
        dsimp only [Pt.U, Pt.locs, Pt.cells, Pt.slots] at X_188 l_188 y_188 z_188 st_188 hQ_188
        subst l_188 y_188 z_188
        refine own_tr st_188 ?_
        obtain ⟨rfl, Nq_188, Kq_188, A_q188, F_c188, t_188, kb_188, gt_188, ht_188, nt_188, F_v188, V_b188⟩ := hQ_188
        have N_188 := Fr.app N_181 Nq_188
        have ne_188_a_174 : a_174 ≠ t_188 := Nat.ne_of_lt (Nat.lt_of_lt_of_le V_182.lt ht_188)
        have ne_188_a_169 : a_169 ≠ t_188 := Nat.ne_of_lt (Nat.lt_of_lt_of_le A_185.lt ht_188)
        have V_190 : Arv Z T_188.heap a_174 kc_174 .char (1 : Int32) [(.int (nar .char (nar .char (x1 &&& (255 : Int32)))))] (.int (0 : Int32)) := V_182.keep Kq_188 (ninS (Ne.symm ne_174_a_169) nin0)
        have O_191 : Old Z n0 T_188.heap := O_184.keep Kq_188 (allS ge_169 all0)
        have Z_189 : n0 ≤ T_188.heap.size := Nat.le_trans Z_183 Kq_188.1
        have K1_189 := Nat.le_trans K1_183 Kq_188.1
        show own_Go p e below _ T_188 (mkF m 85 #[.val (.int x0), .val (.int x1), .val (.int x2), .val (.int x3), .val (.int x4), .val (.int (0 : Int32)), .val (.null), .unset, .unset, .unset, .unset, .unset, .unset, .unset] [(.ref a_169)])
        refine own_astore X_188 hx (hb hby at_85) (pc' := 87) (Ls' := #[.val (.int x0), .val (.int x1), .val (.int x2), .val (.int x3), .val (.int x4), .val (.int (0 : Int32)), .val (.null), .val (.ref a_169), .unset, .unset, .unset, .unset, .unset, .unset]) rfl rfl rfl ?_
        refine own_iload X_188 hx (hb hby at_87) (pc' := 89) rfl rfl ?_
        refine own_ifY X_188 hx (hb hby at_89) (by decide) (pc' := 97) (by decide) (by decide) ?_
        obtain ⟨la_192, T_192, h_192, kn_192, X_192, e_192, E_192, hS, hkn_192, hZ, hown, st_192⟩ := ldcS X_188 hx hZ hown (hw _ (List.mem_of_getElem? (i := 30) rfl)) own_wS rfl hS K1_189 (g := (mkF m 97 #[.val (.int x0), .val (.int x1), .val (.int x2), .val (.int x3), .val (.int x4), .val (.int (0 : Int32)), .val (.null), .val (.ref a_169), .unset, .unset, .unset, .unset, .unset, .unset] [])) rfl (hb hby at_97) (n := 32) (by decide) (by decide) (by decide) (by decide)
        have A_194 : Exa Z h_192 a_169 "java/lang/String" := A_q188.ext E_192
        have F_195 : Fld Z h_192 a_169 "java/lang/String" "coder" "B" (.int 0) := F_c188.ext E_192
        have F_196 : Fld Z h_192 a_169 "java/lang/String" "value" "[B" (.ref t_188) := F_v188.ext E_192
        have V_197 : Arv Z h_192 t_188 kb_188 .byte (1 : Int32) ((([(nar .char (nar .char (x1 &&& (255 : Int32))))] : List Int32).map (fun c => c.toInt8.toInt32)).map Value.int) (.int 0) := V_b188.ext E_192
        have V_198 : Arv Z h_192 a_174 kc_174 .char (1 : Int32) [(.int (nar .char (nar .char (x1 &&& (255 : Int32)))))] (.int (0 : Int32)) := V_190.ext E_192
        have O_199 : Old Z n0 h_192 := O_191.ext E_192
        have Z_193 : n0 ≤ h_192.size := Nat.le_trans Z_189 E_192.1
        refine own_st st_192 ?_
        show own_Go p e below _ T_192 (mkF m 99 #[.val (.int x0), .val (.int x1), .val (.int x2), .val (.int x3), .val (.int x4), .val (.int (0 : Int32)), .val (.null), .val (.ref a_169), .unset, .unset, .unset, .unset, .unset, .unset] [(.ref la_192)])
        refine own_astore X_192 hx (hb hby at_99) (pc' := 101) (Ls' := #[.val (.int x0), .val (.int x1), .val (.int x2), .val (.int x3), .val (.int x4), .val (.int (0 : Int32)), .val (.null), .val (.ref a_169), .val (.ref la_192), .unset, .unset, .unset, .unset, .unset]) rfl rfl rfl ?_
        obtain ⟨T_200, h_200, X_200, e_200, E_200, A_200, D_200, -, st_200⟩ := newO X_192 hx hZ hown (hw _ (List.mem_of_getElem? (i := 33) rfl)) (hw _ (List.mem_of_getElem? (i := 34) rfl)) (hw _ (List.mem_of_getElem? (i := 35) rfl)) e_192 (g := (mkF m 101 #[.val (.int x0), .val (.int x1), .val (.int x2), .val (.int x3), .val (.int x4), .val (.int (0 : Int32)), .val (.null), .val (.ref a_169), .val (.ref la_192), .unset, .unset, .unset, .unset, .unset] [])) rfl (hb hby at_101) (by decide) (by decide)
        obtain ⟨a_200, g_200⟩ : ∃ z, z = h_192.size := ⟨_, rfl⟩
        rw [← g_200] at A_200 D_200 st_200
        have ge_200 : n0 ≤ a_200 := Nat.le_trans Z_193 (Nat.le_of_eq g_200.symm)
        have ne_200_a_169 : a_169 ≠ a_200 := Nat.ne_of_lt (Nat.lt_of_lt_of_eq A_194.lt g_200.symm)
        have ne_200_t_188 : t_188 ≠ a_200 := Nat.ne_of_lt (Nat.lt_of_lt_of_eq V_197.lt g_200.symm)
        have ne_200_a_174 : a_174 ≠ a_200 := Nat.ne_of_lt (Nat.lt_of_lt_of_eq V_198.lt g_200.symm)
        have A_202 : Exa Z h_200 a_169 "java/lang/String" := A_194.ext E_200
        have F_203 : Fld Z h_200 a_169 "java/lang/String" "coder" "B" (.int 0) := F_195.ext E_200
        have F_204 : Fld Z h_200 a_169 "java/lang/String" "value" "[B" (.ref t_188) := F_196.ext E_200
        have V_205 : Arv Z h_200 t_188 kb_188 .byte (1 : Int32) ((([(nar .char (nar .char (x1 &&& (255 : Int32))))] : List Int32).map (fun c => c.toInt8.toInt32)).map Value.int) (.int 0) := V_197.ext E_200
        have V_206 : Arv Z h_200 a_174 kc_174 .char (1 : Int32) [(.int (nar .char (nar .char (x1 &&& (255 : Int32)))))] (.int (0 : Int32)) := V_198.ext E_200
        have O_207 : Old Z n0 h_200 := O_199.ext E_200
        have Z_201 : n0 ≤ h_200.size := Nat.le_trans Z_193 E_200.1
        have K1_201 := Nat.le_trans hkn_192 E_200.1
        have F_208 : Fld Z h_200 a_200 "com/example/muster/muster/role/RoleRelation" "roleId" "Ljava/lang/String;" (.null) := D_200 (Or.inr (hw _ (List.mem_of_getElem? (i := 41) rfl))) (ty := (.object "java/lang/String")) (by decide)
        have F_209 : Fld Z h_200 a_200 "com/example/muster/muster/role/RoleRelation" "namedId" "Ljava/lang/String;" (.null) := D_200 (Or.inr (hw _ (List.mem_of_getElem? (i := 43) rfl))) (ty := (.object "java/lang/String")) (by decide)
        have F_210 : Fld Z h_200 a_200 "com/example/muster/muster/role/RoleRelation" "namesParent" "Z" (.int (0 : Int32)) := D_200 (Or.inr (hw _ (List.mem_of_getElem? (i := 45) rfl))) (ty := .boolean) (by decide)
        have F_211 : Fld Z h_200 a_200 "com/example/muster/muster/role/RoleRelation" "element" "Ljava/lang/String;" (.null) := D_200 (Or.inr (hw _ (List.mem_of_getElem? (i := 47) rfl))) (ty := (.object "java/lang/String")) (by decide)
        have F_212 : Fld Z h_200 a_200 "com/example/muster/muster/role/RoleRelation" "line" "I" (.int (0 : Int32)) := D_200 (Or.inr (hw _ (List.mem_of_getElem? (i := 49) rfl))) (ty := .int) (by decide)
        have F_213 : Fld Z h_200 a_200 "com/example/muster/muster/role/RoleRelation" "column" "I" (.int (0 : Int32)) := D_200 (Or.inr (hw _ (List.mem_of_getElem? (i := 51) rfl))) (ty := .int) (by decide)
        refine own_st st_200 ?_
        show own_Go p e below _ T_200 (mkF m 104 #[.val (.int x0), .val (.int x1), .val (.int x2), .val (.int x3), .val (.int x4), .val (.int (0 : Int32)), .val (.null), .val (.ref a_169), .val (.ref la_192), .unset, .unset, .unset, .unset, .unset] [(.ref a_200)])
        refine own_dup X_200 hx (hb hby at_104) (pc' := 105) rfl rfl ?_
        refine own_aload X_200 hx (hb hby at_105) (pc' := 107) rfl rfl rfl ?_
        refine own_aload X_200 hx (hb hby at_107) (pc' := 109) rfl rfl rfl ?_
        refine own_iload X_200 hx (hb hby at_109) (pc' := 111) rfl rfl ?_
        refine own_aload X_200 hx (hb hby at_111) (pc' := 113) rfl rfl rfl ?_
        refine own_iloadN X_200 hx (hb hby at_113) (pc' := 114) rfl rfl ?_
        refine own_iload X_200 hx (hb hby at_114) (pc' := 116) rfl rfl ?_
        obtain ⟨_, _, ⟨T_214, L_214, k_214, n_214⟩, -, X_214, ⟨Lc_214, hQ_214, l_214, y_214, z_214⟩, st_214⟩ := X_200.specialBack hx  (y := (⟨"com/example/muster/muster/role/RoleRelation", "<init>", "(Ljava/lang/String;Ljava/lang/String;ZLjava/lang/String;II)V"⟩ : MethodName)) rfl hown (mvT hZ (hw _ (List.mem_of_getElem? (i := 36) rfl))) (mvT hZ (hw _ (List.mem_of_getElem? (i := 37) rfl))) (mvT hZ (hw _ (List.mem_of_getElem? (i := 38) rfl))) (by decide) (backOf (W := 1) (rm1 l Z a0 hw [] a_200 (.null) (.ref a_169) (0 : Int32) la_192 x3 x4 h_200 n0 Z_201 rfl rfl A_200 F_208 F_209 F_210 F_211 F_212 F_213 ge_200 rfl rfl) hZ (hw _ (List.mem_of_getElem? (i := 38) rfl)) (hw _ (List.mem_of_getElem? (i := 35) rfl)) (by decide) (by decide)) (g := (mkF m 116 #[.val (.int x0), .val (.int x1), .val (.int x2), .val (.int x3), .val (.int x4), .val (.int (0 : Int32)), .val (.null), .val (.ref a_169), .val (.ref la_192), .unset, .unset, .unset, .unset, .unset] [(.int x4), (.int x3), (.ref la_192), (.int (0 : Int32)), (.ref a_169), (.null), (.ref a_200), (.ref a_200)])) rfl (by rw [hml]; rfl) (Steps.refl _) (a := a_200) (argsL := [(.null), (.ref a_169), (.int (0 : Int32)), (.ref la_192), (.int x3), (.int x4)]) (rest := [(.ref a_200)]) (lenOf pd0_1 rfl) rfl (by show 2 * 0 + _ ≤ _; exact Nat.le_of_eq rfl) (hb hby at_116) (fun _ _ => ⟨rfl, e_200, (by decide : 6 + 0 ≤ _), (by decide : 48 + 0 ≤ _)⟩)
        dsimp only [Pt.U, Pt.locs, Pt.cells, Pt.slots] at X_214 l_214 y_214 z_214 st_214 hQ_214
        subst l_214 y_214 z_214
        refine own_tr st_214 ?_
        obtain ⟨rfl, Nq_214, Kq_214, q0_214, q1_214, q2_214⟩ := hQ_214
        have N_214 := Fr.app N_188 Nq_214
        have F_215 : Fld Z T_214.heap a_200 "com/example/muster/muster/role/RoleRelation" "roleId" "Ljava/lang/String;" (.null) := q0_214
        have F_216 : Fld Z T_214.heap a_200 "com/example/muster/muster/role/RoleRelation" "namedId" "Ljava/lang/String;" (.ref a_169) := q1_214
        have F_217 : Fld Z T_214.heap a_200 "com/example/muster/muster/role/RoleRelation" "namesParent" "Z" (.int (0 : Int32)) := q2_214
        have A_219 : Exa Z T_214.heap a_169 "java/lang/String" := A_202.keep Kq_214
        have F_220 : Fld Z T_214.heap a_169 "java/lang/String" "coder" "B" (.int 0) := F_203.keep Kq_214 (ninS ne_200_a_169 nin0)
        have F_221 : Fld Z T_214.heap a_169 "java/lang/String" "value" "[B" (.ref t_188) := F_204.keep Kq_214 (ninS ne_200_a_169 nin0)
        have V_222 : Arv Z T_214.heap t_188 kb_188 .byte (1 : Int32) ((([(nar .char (nar .char (x1 &&& (255 : Int32))))] : List Int32).map (fun c => c.toInt8.toInt32)).map Value.int) (.int 0) := V_205.keep Kq_214 (ninS ne_200_t_188 nin0)
        have V_223 : Arv Z T_214.heap a_174 kc_174 .char (1 : Int32) [(.int (nar .char (nar .char (x1 &&& (255 : Int32)))))] (.int (0 : Int32)) := V_206.keep Kq_214 (ninS ne_200_a_174 nin0)
        have O_224 : Old Z n0 T_214.heap := O_207.keep Kq_214 (allS ge_200 all0)
        have A_225 : Exa Z T_214.heap a_200 "com/example/muster/muster/role/RoleRelation" := A_200.keep Kq_214
        have Z_218 : n0 ≤ T_214.heap.size := Nat.le_trans Z_201 Kq_214.1
        have K1_218 := Nat.le_trans K1_201 Kq_214.1
        show own_Go p e below _ T_214 (mkF m 119 #[.val (.int x0), .val (.int x1), .val (.int x2), .val (.int x3), .val (.int x4), .val (.int (0 : Int32)), .val (.null), .val (.ref a_169), .val (.ref la_192), .unset, .unset, .unset, .unset, .unset] [(.ref a_200)])
        refine own_astore X_214 hx (hb hby at_119) (pc' := 121) (Ls' := #[.val (.int x0), .val (.int x1), .val (.int x2), .val (.int x3), .val (.int x4), .val (.int (0 : Int32)), .val (.null), .val (.ref a_169), .val (.ref la_192), .val (.ref a_200), .unset, .unset, .unset, .unset]) rfl rfl rfl ?_
        refine own_aload X_214 hx (hb hby at_121) (pc' := 123) rfl rfl rfl ?_
        obtain ⟨cq_226, kq_226, qa_226, qb_226, qc_226⟩ := isOf hZ rfl A_225
        obtain ⟨_, _, ⟨T_226, L_226, k_226, n_226⟩, -, X_226, ⟨Lc_226, hQ_226, l_226, y_226, z_226⟩, st_226⟩ := X_214.virtualBack hx  (y := (⟨"com/example/muster/muster/role/RoleRelation", "getChildId", "()Ljava/lang/String;"⟩ : MethodName)) (z := (⟨"com/example/muster/muster/role/RoleRelation", "getChildId", "()Ljava/lang/String;"⟩ : MethodName)) hown (mvT hZ (hw _ (List.mem_of_getElem? (i := 52) rfl))) (mvT hZ (hw _ (List.mem_of_getElem? (i := 53) rfl))) (notFace_of_selects (args := #[]) (mvT hZ (hw _ (List.mem_of_getElem? (i := 55) rfl)))) (mvT hZ (hw _ (List.mem_of_getElem? (i := 55) rfl))) (mvT hZ (hw _ (List.mem_of_getElem? (i := 54) rfl))) (by decide) (backOf (W := 0) (rm3 l Z a0 hw [] a_200 (.null) (.ref a_169) (0 : Int32) T_214.heap n0 Z_218 F_215 F_216 F_217 rfl rfl) hZ (hw _ (List.mem_of_getElem? (i := 56) rfl)) (hw _ (List.mem_of_getElem? (i := 35) rfl)) (by decide) (by decide)) qa_226 qc_226 (g := (mkF m 123 #[.val (.int x0), .val (.int x1), .val (.int x2), .val (.int x3), .val (.int x4), .val (.int (0 : Int32)), .val (.null), .val (.ref a_169), .val (.ref la_192), .val (.ref a_200), .unset, .unset, .unset, .unset] [(.ref a_200)])) rfl (by rw [hml]; rfl) (Steps.refl _) (argsL := []) (rest := []) (lenOf pd0_2 rfl) rfl (by show 2 * 0 + _ ≤ _; exact Nat.le_of_eq rfl) (hb hby at_123) (fun _ _ => ⟨rfl, rfl, (by decide : 6 + 0 ≤ _), (by decide : 48 + 0 ≤ _)⟩)
        dsimp only [Pt.U, Pt.locs, Pt.cells, Pt.slots] at X_226 l_226 y_226 z_226 st_226 hQ_226
        subst l_226 y_226 z_226
        refine own_tr st_226 ?_
        obtain ⟨rfl, Nq_226, eq_226⟩ := hQ_226
        have N_226 := Fr.app N_214 Nq_226
        dsimp only [Option.toList, List.cons_append, List.nil_append]
        rw [if_pos (by decide)]
        show own_Go p e below _ T_226 (mkF m 126 #[.val (.int x0), .val (.int x1), .val (.int x2), .val (.int x3), .val (.int x4), .val (.int (0 : Int32)), .val (.null), .val (.ref a_169), .val (.ref la_192), .val (.ref a_200), .unset, .unset, .unset, .unset] [(.ref a_169)])
        refine own_astore X_226 hx (hb hby at_126) (pc' := 128) (Ls' := #[.val (.int x0), .val (.int x1), .val (.int x2), .val (.int x3), .val (.int x4), .val (.int (0 : Int32)), .val (.null), .val (.ref a_169), .val (.ref la_192), .val (.ref a_200), .val (.ref a_169), .unset, .unset, .unset]) rfl rfl rfl ?_
        refine own_aload X_226 hx (hb hby at_128) (pc' := 130) rfl rfl rfl ?_
        obtain ⟨cq_227, kq_227, qa_227, qb_227, qc_227⟩ := isOf hZ eq_226 A_225
        obtain ⟨_, _, ⟨T_227, L_227, k_227, n_227⟩, -, X_227, ⟨Lc_227, hQ_227, l_227, y_227, z_227⟩, st_227⟩ := X_226.virtualBack hx  (y := (⟨"com/example/muster/muster/role/RoleRelation", "getParentId", "()Ljava/lang/String;"⟩ : MethodName)) (z := (⟨"com/example/muster/muster/role/RoleRelation", "getParentId", "()Ljava/lang/String;"⟩ : MethodName)) hown (mvT hZ (hw _ (List.mem_of_getElem? (i := 57) rfl))) (mvT hZ (hw _ (List.mem_of_getElem? (i := 58) rfl))) (notFace_of_selects (args := #[]) (mvT hZ (hw _ (List.mem_of_getElem? (i := 60) rfl)))) (mvT hZ (hw _ (List.mem_of_getElem? (i := 60) rfl))) (mvT hZ (hw _ (List.mem_of_getElem? (i := 59) rfl))) (by decide) (backOf (W := 0) (rm2 l Z a0 hw [] a_200 (.null) (.ref a_169) (0 : Int32) T_214.heap n0 Z_218 F_215 F_216 F_217 rfl rfl) hZ (hw _ (List.mem_of_getElem? (i := 61) rfl)) (hw _ (List.mem_of_getElem? (i := 35) rfl)) (by decide) (by decide)) qa_227 qc_227 (g := (mkF m 130 #[.val (.int x0), .val (.int x1), .val (.int x2), .val (.int x3), .val (.int x4), .val (.int (0 : Int32)), .val (.null), .val (.ref a_169), .val (.ref la_192), .val (.ref a_200), .val (.ref a_169), .unset, .unset, .unset] [(.ref a_200)])) rfl (by rw [hml]; rfl) (Steps.refl _) (argsL := []) (rest := []) (lenOf pd0_2 rfl) rfl (by show 2 * 0 + _ ≤ _; exact Nat.le_of_eq rfl) (hb hby at_130) (fun _ _ => ⟨rfl, eq_226, (by decide : 6 + 0 ≤ _), (by decide : 48 + 0 ≤ _)⟩)
        dsimp only [Pt.U, Pt.locs, Pt.cells, Pt.slots] at X_227 l_227 y_227 z_227 st_227 hQ_227
        subst l_227 y_227 z_227
        refine own_tr st_227 ?_
        obtain ⟨rfl, Nq_227, eq_227⟩ := hQ_227
        have N_227 := Fr.app N_226 Nq_227
        dsimp only [Option.toList, List.cons_append, List.nil_append]
        rw [if_pos (by decide)]
        show own_Go p e below _ T_227 (mkF m 133 #[.val (.int x0), .val (.int x1), .val (.int x2), .val (.int x3), .val (.int x4), .val (.int (0 : Int32)), .val (.null), .val (.ref a_169), .val (.ref la_192), .val (.ref a_200), .val (.ref a_169), .unset, .unset, .unset] [(.null)])
        refine own_astore X_227 hx (hb hby at_133) (pc' := 135) (Ls' := #[.val (.int x0), .val (.int x1), .val (.int x2), .val (.int x3), .val (.int x4), .val (.int (0 : Int32)), .val (.null), .val (.ref a_169), .val (.ref la_192), .val (.ref a_200), .val (.ref a_169), .val (.null), .unset, .unset]) rfl rfl rfl ?_
        refine own_iload X_227 hx (hb hby at_135) (pc' := 137) rfl rfl ?_
        refine own_ifY X_227 hx (hb hby at_137) (by decide) (pc' := 145) (by decide) (by decide) ?_
        refine own_aload X_227 hx (hb hby at_145) (pc' := 147) rfl rfl rfl ?_
        refine own_astore X_227 hx (hb hby at_147) (pc' := 149) (Ls' := #[.val (.int x0), .val (.int x1), .val (.int x2), .val (.int x3), .val (.int x4), .val (.int (0 : Int32)), .val (.null), .val (.ref a_169), .val (.ref la_192), .val (.ref a_200), .val (.ref a_169), .val (.null), .val (.ref a_169), .unset]) rfl rfl rfl ?_
        refine own_iload X_227 hx (hb hby at_149) (pc' := 151) rfl rfl ?_
        refine own_ifY X_227 hx (hb hby at_151) (by decide) (pc' := 159) (by decide) (by decide) ?_
        refine own_aload X_227 hx (hb hby at_159) (pc' := 161) rfl rfl rfl ?_
        refine own_astore X_227 hx (hb hby at_161) (pc' := 163) (Ls' := #[.val (.int x0), .val (.int x1), .val (.int x2), .val (.int x3), .val (.int x4), .val (.int (0 : Int32)), .val (.null), .val (.ref a_169), .val (.ref la_192), .val (.ref a_200), .val (.ref a_169), .val (.null), .val (.ref a_169), .val (.null)]) rfl rfl rfl ?_
        refine own_aload X_227 hx (hb hby at_163) (pc' := 165) rfl rfl rfl ?_
        refine own_aload X_227 hx (hb hby at_165) (pc' := 167) rfl rfl rfl ?_
        refine own_acmpN X_227 hx rfl rfl (hb hby at_167) (XT.aa_ne_f rfl) (pc' := 170) rfl ?_
        refine own_aload X_227 hx (hb hby at_170) (pc' := 172) rfl rfl rfl ?_
        refine own_aload X_227 hx (hb hby at_172) (pc' := 174) rfl rfl rfl ?_
        refine own_acmpN X_227 hx rfl rfl (hb hby at_174) (XT.aa_ne_f rfl) (pc' := 177) rfl ?_
        refine own_aload X_227 hx (hb hby at_177) (pc' := 179) rfl rfl rfl ?_
        obtain ⟨cq_228, kq_228, qa_228, qb_228, qc_228⟩ := isOf hZ eq_227 A_225
        obtain ⟨_, _, ⟨T_228, L_228, k_228, n_228⟩, -, X_228, ⟨Lc_228, hQ_228, l_228, y_228, z_228⟩, st_228⟩ := X_227.virtualBack hx  (y := (⟨"com/example/muster/muster/role/RoleRelation", "getRoleId", "()Ljava/lang/String;"⟩ : MethodName)) (z := (⟨"com/example/muster/muster/role/RoleRelation", "getRoleId", "()Ljava/lang/String;"⟩ : MethodName)) hown (mvT hZ (hw _ (List.mem_of_getElem? (i := 62) rfl))) (mvT hZ (hw _ (List.mem_of_getElem? (i := 63) rfl))) (notFace_of_selects (args := #[]) (mvT hZ (hw _ (List.mem_of_getElem? (i := 65) rfl)))) (mvT hZ (hw _ (List.mem_of_getElem? (i := 65) rfl))) (mvT hZ (hw _ (List.mem_of_getElem? (i := 64) rfl))) (by decide) (backOf (W := 0) (rm4 l Z a0 hw [] a_200 (.null) T_214.heap n0 Z_218 F_215 rfl) hZ (hw _ (List.mem_of_getElem? (i := 66) rfl)) (hw _ (List.mem_of_getElem? (i := 35) rfl)) (by decide) (by decide)) qa_228 qc_228 (g := (mkF m 179 #[.val (.int x0), .val (.int x1), .val (.int x2), .val (.int x3), .val (.int x4), .val (.int (0 : Int32)), .val (.null), .val (.ref a_169), .val (.ref la_192), .val (.ref a_200), .val (.ref a_169), .val (.null), .val (.ref a_169), .val (.null)] [(.ref a_200)])) rfl (by rw [hml]; rfl) (Steps.refl _) (argsL := []) (rest := []) (lenOf pd0_2 rfl) rfl (by show 2 * 0 + _ ≤ _; exact Nat.le_of_eq rfl) (hb hby at_179) (fun _ _ => ⟨rfl, eq_227, (by decide : 6 + 0 ≤ _), (by decide : 48 + 0 ≤ _)⟩)
        dsimp only [Pt.U, Pt.locs, Pt.cells, Pt.slots] at X_228 l_228 y_228 z_228 st_228 hQ_228
        subst l_228 y_228 z_228
        refine own_tr st_228 ?_
        obtain ⟨rfl, Nq_228, eq_228⟩ := hQ_228
        have N_228 := Fr.app N_227 Nq_228
        show own_Go p e below _ T_228 (mkF m 182 #[.val (.int x0), .val (.int x1), .val (.int x2), .val (.int x3), .val (.int x4), .val (.int (0 : Int32)), .val (.null), .val (.ref a_169), .val (.ref la_192), .val (.ref a_200), .val (.ref a_169), .val (.null), .val (.ref a_169), .val (.null)] [(.null)])
        refine own_aload X_228 hx (hb hby at_182) (pc' := 184) rfl rfl rfl ?_
        refine own_acmpN X_228 hx rfl rfl (hb hby at_184) (XT.aa_ne_f rfl) (pc' := 187) rfl ?_
        refine own_aload X_228 hx (hb hby at_187) (pc' := 189) rfl rfl rfl ?_
        obtain ⟨cq_229, kq_229, qa_229, qb_229, qc_229⟩ := isOf hZ eq_228 A_225
        obtain ⟨_, _, ⟨T_229, L_229, k_229, n_229⟩, -, X_229, ⟨Lc_229, hQ_229, l_229, y_229, z_229⟩, st_229⟩ := X_228.virtualBack hx  (y := (⟨"com/example/muster/muster/role/RoleRelation", "getNamedId", "()Ljava/lang/String;"⟩ : MethodName)) (z := (⟨"com/example/muster/muster/role/RoleRelation", "getNamedId", "()Ljava/lang/String;"⟩ : MethodName)) hown (mvT hZ (hw _ (List.mem_of_getElem? (i := 67) rfl))) (mvT hZ (hw _ (List.mem_of_getElem? (i := 68) rfl))) (notFace_of_selects (args := #[]) (mvT hZ (hw _ (List.mem_of_getElem? (i := 70) rfl)))) (mvT hZ (hw _ (List.mem_of_getElem? (i := 70) rfl))) (mvT hZ (hw _ (List.mem_of_getElem? (i := 69) rfl))) (by decide) (backOf (W := 0) (rm5 l Z a0 hw [] a_200 (.ref a_169) T_214.heap n0 Z_218 F_216 rfl) hZ (hw _ (List.mem_of_getElem? (i := 71) rfl)) (hw _ (List.mem_of_getElem? (i := 35) rfl)) (by decide) (by decide)) qa_229 qc_229 (g := (mkF m 189 #[.val (.int x0), .val (.int x1), .val (.int x2), .val (.int x3), .val (.int x4), .val (.int (0 : Int32)), .val (.null), .val (.ref a_169), .val (.ref la_192), .val (.ref a_200), .val (.ref a_169), .val (.null), .val (.ref a_169), .val (.null)] [(.ref a_200)])) rfl (by rw [hml]; rfl) (Steps.refl _) (argsL := []) (rest := []) (lenOf pd0_2 rfl) rfl (by show 2 * 0 + _ ≤ _; exact Nat.le_of_eq rfl) (hb hby at_189) (fun _ _ => ⟨rfl, eq_228, (by decide : 6 + 0 ≤ _), (by decide : 48 + 0 ≤ _)⟩)
        dsimp only [Pt.U, Pt.locs, Pt.cells, Pt.slots] at X_229 l_229 y_229 z_229 st_229 hQ_229
        subst l_229 y_229 z_229
        refine own_tr st_229 ?_
        obtain ⟨rfl, Nq_229, eq_229⟩ := hQ_229
        have N_229 := Fr.app N_228 Nq_229
        show own_Go p e below _ T_229 (mkF m 192 #[.val (.int x0), .val (.int x1), .val (.int x2), .val (.int x3), .val (.int x4), .val (.int (0 : Int32)), .val (.null), .val (.ref a_169), .val (.ref la_192), .val (.ref a_200), .val (.ref a_169), .val (.null), .val (.ref a_169), .val (.null)] [(.ref a_169)])
        refine own_aload X_229 hx (hb hby at_192) (pc' := 194) rfl rfl rfl ?_
        refine own_acmpN X_229 hx rfl rfl (hb hby at_194) (XT.aa_ne_f rfl) (pc' := 197) rfl ?_
        refine own_iconst X_229 hx (1) (hb hby at_197) (pc' := 198) rfl rfl ?_
        refine own_goto X_229 hx (hb hby at_198) (pc' := 202) (by decide) (by decide) ?_
        refine own_retZW X_229 hS (by rw [eq_229]; exact K1_218) hx hlk Bd.returns (by simp) (hb hby at_202) (by decide) (by decide) ?_
        exact ⟨rfl, N_229⟩
      · skip
        refine own_ifN X0 hx (hb hby at_59) (XT.i0_eq_f c_168) (pc' := 62) rfl ?_
        refine own_null X0 hx (hb hby at_62) (pc' := 63) rfl ?_
        refine own_goto X0 hx (hb hby at_63) (pc' := 85) (by decide) (by decide) ?_
        refine own_astore X0 hx (hb hby at_85) (pc' := 87) (Ls' := #[.val (.int x0), .val (.int x1), .val (.int x2), .val (.int x3), .val (.int x4), .val (.int (0 : Int32)), .val (.null), .val (.null), .unset, .unset, .unset, .unset, .unset, .unset]) rfl rfl rfl ?_
        refine own_iload X0 hx (hb hby at_87) (pc' := 89) rfl rfl ?_
        refine own_ifY X0 hx (hb hby at_89) (by decide) (pc' := 97) (by decide) (by decide) ?_
        obtain ⟨la_230, T_230, h_230, kn_230, X_230, e_230, E_230, hS, hkn_230, hZ, hown, st_230⟩ := ldcS X0 hx hZ hown (hw _ (List.mem_of_getElem? (i := 30) rfl)) own_wS e0 hS (Nat.le_refl _) (g := (mkF m 97 #[.val (.int x0), .val (.int x1), .val (.int x2), .val (.int x3), .val (.int x4), .val (.int (0 : Int32)), .val (.null), .val (.null), .unset, .unset, .unset, .unset, .unset, .unset] [])) rfl (hb hby at_97) (n := 32) (by decide) (by decide) (by decide) (by decide)
        have O_232 : Old Z n0 h_230 := O_a.ext E_230
        have Z_231 : n0 ≤ h_230.size := Nat.le_trans Z0 E_230.1
        refine own_st st_230 ?_
        show own_Go p e below _ T_230 (mkF m 99 #[.val (.int x0), .val (.int x1), .val (.int x2), .val (.int x3), .val (.int x4), .val (.int (0 : Int32)), .val (.null), .val (.null), .unset, .unset, .unset, .unset, .unset, .unset] [(.ref la_230)])
        refine own_astore X_230 hx (hb hby at_99) (pc' := 101) (Ls' := #[.val (.int x0), .val (.int x1), .val (.int x2), .val (.int x3), .val (.int x4), .val (.int (0 : Int32)), .val (.null), .val (.null), .val (.ref la_230), .unset, .unset, .unset, .unset, .unset]) rfl rfl rfl ?_
        obtain ⟨T_233, h_233, X_233, e_233, E_233, A_233, D_233, -, st_233⟩ := newO X_230 hx hZ hown (hw _ (List.mem_of_getElem? (i := 33) rfl)) (hw _ (List.mem_of_getElem? (i := 34) rfl)) (hw _ (List.mem_of_getElem? (i := 35) rfl)) e_230 (g := (mkF m 101 #[.val (.int x0), .val (.int x1), .val (.int x2), .val (.int x3), .val (.int x4), .val (.int (0 : Int32)), .val (.null), .val (.null), .val (.ref la_230), .unset, .unset, .unset, .unset, .unset] [])) rfl (hb hby at_101) (by decide) (by decide)
        obtain ⟨a_233, g_233⟩ : ∃ z, z = h_230.size := ⟨_, rfl⟩
        rw [← g_233] at A_233 D_233 st_233
        have ge_233 : n0 ≤ a_233 := Nat.le_trans Z_231 (Nat.le_of_eq g_233.symm)
        have O_235 : Old Z n0 h_233 := O_232.ext E_233
        have Z_234 : n0 ≤ h_233.size := Nat.le_trans Z_231 E_233.1
        have K1_234 := Nat.le_trans hkn_230 E_233.1
        have F_236 : Fld Z h_233 a_233 "com/example/muster/muster/role/RoleRelation" "roleId" "Ljava/lang/String;" (.null) := D_233 (Or.inr (hw _ (List.mem_of_getElem? (i := 41) rfl))) (ty := (.object "java/lang/String")) (by decide)
        have F_237 : Fld Z h_233 a_233 "com/example/muster/muster/role/RoleRelation" "namedId" "Ljava/lang/String;" (.null) := D_233 (Or.inr (hw _ (List.mem_of_getElem? (i := 43) rfl))) (ty := (.object "java/lang/String")) (by decide)
        have F_238 : Fld Z h_233 a_233 "com/example/muster/muster/role/RoleRelation" "namesParent" "Z" (.int (0 : Int32)) := D_233 (Or.inr (hw _ (List.mem_of_getElem? (i := 45) rfl))) (ty := .boolean) (by decide)
        have F_239 : Fld Z h_233 a_233 "com/example/muster/muster/role/RoleRelation" "element" "Ljava/lang/String;" (.null) := D_233 (Or.inr (hw _ (List.mem_of_getElem? (i := 47) rfl))) (ty := (.object "java/lang/String")) (by decide)
        have F_240 : Fld Z h_233 a_233 "com/example/muster/muster/role/RoleRelation" "line" "I" (.int (0 : Int32)) := D_233 (Or.inr (hw _ (List.mem_of_getElem? (i := 49) rfl))) (ty := .int) (by decide)
        have F_241 : Fld Z h_233 a_233 "com/example/muster/muster/role/RoleRelation" "column" "I" (.int (0 : Int32)) := D_233 (Or.inr (hw _ (List.mem_of_getElem? (i := 51) rfl))) (ty := .int) (by decide)
        refine own_st st_233 ?_
        show own_Go p e below _ T_233 (mkF m 104 #[.val (.int x0), .val (.int x1), .val (.int x2), .val (.int x3), .val (.int x4), .val (.int (0 : Int32)), .val (.null), .val (.null), .val (.ref la_230), .unset, .unset, .unset, .unset, .unset] [(.ref a_233)])
        refine own_dup X_233 hx (hb hby at_104) (pc' := 105) rfl rfl ?_
        refine own_aload X_233 hx (hb hby at_105) (pc' := 107) rfl rfl rfl ?_
        refine own_aload X_233 hx (hb hby at_107) (pc' := 109) rfl rfl rfl ?_
        refine own_iload X_233 hx (hb hby at_109) (pc' := 111) rfl rfl ?_
        refine own_aload X_233 hx (hb hby at_111) (pc' := 113) rfl rfl rfl ?_
        refine own_iloadN X_233 hx (hb hby at_113) (pc' := 114) rfl rfl ?_
        refine own_iload X_233 hx (hb hby at_114) (pc' := 116) rfl rfl ?_
        obtain ⟨_, _, ⟨T_242, L_242, k_242, n_242⟩, -, X_242, ⟨Lc_242, hQ_242, l_242, y_242, z_242⟩, st_242⟩ := X_233.specialBack hx  (y := (⟨"com/example/muster/muster/role/RoleRelation", "<init>", "(Ljava/lang/String;Ljava/lang/String;ZLjava/lang/String;II)V"⟩ : MethodName)) rfl hown (mvT hZ (hw _ (List.mem_of_getElem? (i := 36) rfl))) (mvT hZ (hw _ (List.mem_of_getElem? (i := 37) rfl))) (mvT hZ (hw _ (List.mem_of_getElem? (i := 38) rfl))) (by decide) (backOf (W := 1) (rm1 l Z a0 hw [] a_233 (.null) (.null) (0 : Int32) la_230 x3 x4 h_233 n0 Z_234 rfl rfl A_233 F_236 F_237 F_238 F_239 F_240 F_241 ge_233 rfl rfl) hZ (hw _ (List.mem_of_getElem? (i := 38) rfl)) (hw _ (List.mem_of_getElem? (i := 35) rfl)) (by decide) (by decide)) (g := (mkF m 116 #[.val (.int x0), .val (.int x1), .val (.int x2), .val (.int x3), .val (.int x4), .val (.int (0 : Int32)), .val (.null), .val (.null), .val (.ref la_230), .unset, .unset, .unset, .unset, .unset] [(.int x4), (.int x3), (.ref la_230), (.int (0 : Int32)), (.null), (.null), (.ref a_233), (.ref a_233)])) rfl (by rw [hml]; rfl) (Steps.refl _) (a := a_233) (argsL := [(.null), (.null), (.int (0 : Int32)), (.ref la_230), (.int x3), (.int x4)]) (rest := [(.ref a_233)]) (lenOf pd0_1 rfl) rfl (by show 2 * 0 + _ ≤ _; exact Nat.le_of_eq rfl) (hb hby at_116) (fun _ _ => ⟨rfl, e_233, (by decide : 3 + 0 ≤ _), (by decide : 42 + 0 ≤ _)⟩)
        dsimp only [Pt.U, Pt.locs, Pt.cells, Pt.slots] at X_242 l_242 y_242 z_242 st_242 hQ_242
        subst l_242 y_242 z_242
        refine own_tr st_242 ?_
        obtain ⟨rfl, Nq_242, Kq_242, q0_242, q1_242, q2_242⟩ := hQ_242
        have N_242 := Fr.app N0 Nq_242
        have F_243 : Fld Z T_242.heap a_233 "com/example/muster/muster/role/RoleRelation" "roleId" "Ljava/lang/String;" (.null) := q0_242
        have F_244 : Fld Z T_242.heap a_233 "com/example/muster/muster/role/RoleRelation" "namedId" "Ljava/lang/String;" (.null) := q1_242
        have F_245 : Fld Z T_242.heap a_233 "com/example/muster/muster/role/RoleRelation" "namesParent" "Z" (.int (0 : Int32)) := q2_242
        have O_247 : Old Z n0 T_242.heap := O_235.keep Kq_242 (allS ge_233 all0)
        have A_248 : Exa Z T_242.heap a_233 "com/example/muster/muster/role/RoleRelation" := A_233.keep Kq_242
        have Z_246 : n0 ≤ T_242.heap.size := Nat.le_trans Z_234 Kq_242.1
        have K1_246 := Nat.le_trans K1_234 Kq_242.1
        show own_Go p e below _ T_242 (mkF m 119 #[.val (.int x0), .val (.int x1), .val (.int x2), .val (.int x3), .val (.int x4), .val (.int (0 : Int32)), .val (.null), .val (.null), .val (.ref la_230), .unset, .unset, .unset, .unset, .unset] [(.ref a_233)])
        refine own_astore X_242 hx (hb hby at_119) (pc' := 121) (Ls' := #[.val (.int x0), .val (.int x1), .val (.int x2), .val (.int x3), .val (.int x4), .val (.int (0 : Int32)), .val (.null), .val (.null), .val (.ref la_230), .val (.ref a_233), .unset, .unset, .unset, .unset]) rfl rfl rfl ?_
        refine own_aload X_242 hx (hb hby at_121) (pc' := 123) rfl rfl rfl ?_
        obtain ⟨cq_249, kq_249, qa_249, qb_249, qc_249⟩ := isOf hZ rfl A_248
        obtain ⟨_, _, ⟨T_249, L_249, k_249, n_249⟩, -, X_249, ⟨Lc_249, hQ_249, l_249, y_249, z_249⟩, st_249⟩ := X_242.virtualBack hx  (y := (⟨"com/example/muster/muster/role/RoleRelation", "getChildId", "()Ljava/lang/String;"⟩ : MethodName)) (z := (⟨"com/example/muster/muster/role/RoleRelation", "getChildId", "()Ljava/lang/String;"⟩ : MethodName)) hown (mvT hZ (hw _ (List.mem_of_getElem? (i := 52) rfl))) (mvT hZ (hw _ (List.mem_of_getElem? (i := 53) rfl))) (notFace_of_selects (args := #[]) (mvT hZ (hw _ (List.mem_of_getElem? (i := 55) rfl)))) (mvT hZ (hw _ (List.mem_of_getElem? (i := 55) rfl))) (mvT hZ (hw _ (List.mem_of_getElem? (i := 54) rfl))) (by decide) (backOf (W := 0) (rm3 l Z a0 hw [] a_233 (.null) (.null) (0 : Int32) T_242.heap n0 Z_246 F_243 F_244 F_245 rfl rfl) hZ (hw _ (List.mem_of_getElem? (i := 56) rfl)) (hw _ (List.mem_of_getElem? (i := 35) rfl)) (by decide) (by decide)) qa_249 qc_249 (g := (mkF m 123 #[.val (.int x0), .val (.int x1), .val (.int x2), .val (.int x3), .val (.int x4), .val (.int (0 : Int32)), .val (.null), .val (.null), .val (.ref la_230), .val (.ref a_233), .unset, .unset, .unset, .unset] [(.ref a_233)])) rfl (by rw [hml]; rfl) (Steps.refl _) (argsL := []) (rest := []) (lenOf pd0_2 rfl) rfl (by show 2 * 0 + _ ≤ _; exact Nat.le_of_eq rfl) (hb hby at_123) (fun _ _ => ⟨rfl, rfl, (by decide : 3 + 0 ≤ _), (by decide : 42 + 0 ≤ _)⟩)
        dsimp only [Pt.U, Pt.locs, Pt.cells, Pt.slots] at X_249 l_249 y_249 z_249 st_249 hQ_249
        subst l_249 y_249 z_249
        refine own_tr st_249 ?_
        obtain ⟨rfl, Nq_249, eq_249⟩ := hQ_249
        have N_249 := Fr.app N_242 Nq_249
        dsimp only [Option.toList, List.cons_append, List.nil_append]
        rw [if_pos (by decide)]
        show own_Go p e below _ T_249 (mkF m 126 #[.val (.int x0), .val (.int x1), .val (.int x2), .val (.int x3), .val (.int x4), .val (.int (0 : Int32)), .val (.null), .val (.null), .val (.ref la_230), .val (.ref a_233), .unset, .unset, .unset, .unset] [(.null)])
        refine own_astore X_249 hx (hb hby at_126) (pc' := 128) (Ls' := #[.val (.int x0), .val (.int x1), .val (.int x2), .val (.int x3), .val (.int x4), .val (.int (0 : Int32)), .val (.null), .val (.null), .val (.ref la_230), .val (.ref a_233), .val (.null), .unset, .unset, .unset]) rfl rfl rfl ?_
        refine own_aload X_249 hx (hb hby at_128) (pc' := 130) rfl rfl rfl ?_
        obtain ⟨cq_250, kq_250, qa_250, qb_250, qc_250⟩ := isOf hZ eq_249 A_248
        obtain ⟨_, _, ⟨T_250, L_250, k_250, n_250⟩, -, X_250, ⟨Lc_250, hQ_250, l_250, y_250, z_250⟩, st_250⟩ := X_249.virtualBack hx  (y := (⟨"com/example/muster/muster/role/RoleRelation", "getParentId", "()Ljava/lang/String;"⟩ : MethodName)) (z := (⟨"com/example/muster/muster/role/RoleRelation", "getParentId", "()Ljava/lang/String;"⟩ : MethodName)) hown (mvT hZ (hw _ (List.mem_of_getElem? (i := 57) rfl))) (mvT hZ (hw _ (List.mem_of_getElem? (i := 58) rfl))) (notFace_of_selects (args := #[]) (mvT hZ (hw _ (List.mem_of_getElem? (i := 60) rfl)))) (mvT hZ (hw _ (List.mem_of_getElem? (i := 60) rfl))) (mvT hZ (hw _ (List.mem_of_getElem? (i := 59) rfl))) (by decide) (backOf (W := 0) (rm2 l Z a0 hw [] a_233 (.null) (.null) (0 : Int32) T_242.heap n0 Z_246 F_243 F_244 F_245 rfl rfl) hZ (hw _ (List.mem_of_getElem? (i := 61) rfl)) (hw _ (List.mem_of_getElem? (i := 35) rfl)) (by decide) (by decide)) qa_250 qc_250 (g := (mkF m 130 #[.val (.int x0), .val (.int x1), .val (.int x2), .val (.int x3), .val (.int x4), .val (.int (0 : Int32)), .val (.null), .val (.null), .val (.ref la_230), .val (.ref a_233), .val (.null), .unset, .unset, .unset] [(.ref a_233)])) rfl (by rw [hml]; rfl) (Steps.refl _) (argsL := []) (rest := []) (lenOf pd0_2 rfl) rfl (by show 2 * 0 + _ ≤ _; exact Nat.le_of_eq rfl) (hb hby at_130) (fun _ _ => ⟨rfl, eq_249, (by decide : 3 + 0 ≤ _), (by decide : 42 + 0 ≤ _)⟩)
        dsimp only [Pt.U, Pt.locs, Pt.cells, Pt.slots] at X_250 l_250 y_250 z_250 st_250 hQ_250
        subst l_250 y_250 z_250
        refine own_tr st_250 ?_
        obtain ⟨rfl, Nq_250, eq_250⟩ := hQ_250
        have N_250 := Fr.app N_249 Nq_250
        dsimp only [Option.toList, List.cons_append, List.nil_append]
        rw [if_pos (by decide)]
        show own_Go p e below _ T_250 (mkF m 133 #[.val (.int x0), .val (.int x1), .val (.int x2), .val (.int x3), .val (.int x4), .val (.int (0 : Int32)), .val (.null), .val (.null), .val (.ref la_230), .val (.ref a_233), .val (.null), .unset, .unset, .unset] [(.null)])
        refine own_astore X_250 hx (hb hby at_133) (pc' := 135) (Ls' := #[.val (.int x0), .val (.int x1), .val (.int x2), .val (.int x3), .val (.int x4), .val (.int (0 : Int32)), .val (.null), .val (.null), .val (.ref la_230), .val (.ref a_233), .val (.null), .val (.null), .unset, .unset]) rfl rfl rfl ?_
        refine own_iload X_250 hx (hb hby at_135) (pc' := 137) rfl rfl ?_
        refine own_ifY X_250 hx (hb hby at_137) (by decide) (pc' := 145) (by decide) (by decide) ?_
        refine own_aload X_250 hx (hb hby at_145) (pc' := 147) rfl rfl rfl ?_
        refine own_astore X_250 hx (hb hby at_147) (pc' := 149) (Ls' := #[.val (.int x0), .val (.int x1), .val (.int x2), .val (.int x3), .val (.int x4), .val (.int (0 : Int32)), .val (.null), .val (.null), .val (.ref la_230), .val (.ref a_233), .val (.null), .val (.null), .val (.null), .unset]) rfl rfl rfl ?_
        refine own_iload X_250 hx (hb hby at_149) (pc' := 151) rfl rfl ?_
        refine own_ifY X_250 hx (hb hby at_151) (by decide) (pc' := 159) (by decide) (by decide) ?_
        refine own_aload X_250 hx (hb hby at_159) (pc' := 161) rfl rfl rfl ?_
        refine own_astore X_250 hx (hb hby at_161) (pc' := 163) (Ls' := #[.val (.int x0), .val (.int x1), .val (.int x2), .val (.int x3), .val (.int x4), .val (.int (0 : Int32)), .val (.null), .val (.null), .val (.ref la_230), .val (.ref a_233), .val (.null), .val (.null), .val (.null), .val (.null)]) rfl rfl rfl ?_
        refine own_aload X_250 hx (hb hby at_163) (pc' := 165) rfl rfl rfl ?_
        refine own_aload X_250 hx (hb hby at_165) (pc' := 167) rfl rfl rfl ?_
        refine own_acmpN X_250 hx rfl rfl (hb hby at_167) (XT.aa_ne_f rfl) (pc' := 170) rfl ?_
        refine own_aload X_250 hx (hb hby at_170) (pc' := 172) rfl rfl rfl ?_
        refine own_aload X_250 hx (hb hby at_172) (pc' := 174) rfl rfl rfl ?_
        refine own_acmpN X_250 hx rfl rfl (hb hby at_174) (XT.aa_ne_f rfl) (pc' := 177) rfl ?_
        refine own_aload X_250 hx (hb hby at_177) (pc' := 179) rfl rfl rfl ?_
        obtain ⟨cq_251, kq_251, qa_251, qb_251, qc_251⟩ := isOf hZ eq_250 A_248
        obtain ⟨_, _, ⟨T_251, L_251, k_251, n_251⟩, -, X_251, ⟨Lc_251, hQ_251, l_251, y_251, z_251⟩, st_251⟩ := X_250.virtualBack hx  (y := (⟨"com/example/muster/muster/role/RoleRelation", "getRoleId", "()Ljava/lang/String;"⟩ : MethodName)) (z := (⟨"com/example/muster/muster/role/RoleRelation", "getRoleId", "()Ljava/lang/String;"⟩ : MethodName)) hown (mvT hZ (hw _ (List.mem_of_getElem? (i := 62) rfl))) (mvT hZ (hw _ (List.mem_of_getElem? (i := 63) rfl))) (notFace_of_selects (args := #[]) (mvT hZ (hw _ (List.mem_of_getElem? (i := 65) rfl)))) (mvT hZ (hw _ (List.mem_of_getElem? (i := 65) rfl))) (mvT hZ (hw _ (List.mem_of_getElem? (i := 64) rfl))) (by decide) (backOf (W := 0) (rm4 l Z a0 hw [] a_233 (.null) T_242.heap n0 Z_246 F_243 rfl) hZ (hw _ (List.mem_of_getElem? (i := 66) rfl)) (hw _ (List.mem_of_getElem? (i := 35) rfl)) (by decide) (by decide)) qa_251 qc_251 (g := (mkF m 179 #[.val (.int x0), .val (.int x1), .val (.int x2), .val (.int x3), .val (.int x4), .val (.int (0 : Int32)), .val (.null), .val (.null), .val (.ref la_230), .val (.ref a_233), .val (.null), .val (.null), .val (.null), .val (.null)] [(.ref a_233)])) rfl (by rw [hml]; rfl) (Steps.refl _) (argsL := []) (rest := []) (lenOf pd0_2 rfl) rfl (by show 2 * 0 + _ ≤ _; exact Nat.le_of_eq rfl) (hb hby at_179) (fun _ _ => ⟨rfl, eq_250, (by decide : 3 + 0 ≤ _), (by decide : 42 + 0 ≤ _)⟩)
        dsimp only [Pt.U, Pt.locs, Pt.cells, Pt.slots] at X_251 l_251 y_251 z_251 st_251 hQ_251
        subst l_251 y_251 z_251
        refine own_tr st_251 ?_
        obtain ⟨rfl, Nq_251, eq_251⟩ := hQ_251
        have N_251 := Fr.app N_250 Nq_251
        show own_Go p e below _ T_251 (mkF m 182 #[.val (.int x0), .val (.int x1), .val (.int x2), .val (.int x3), .val (.int x4), .val (.int (0 : Int32)), .val (.null), .val (.null), .val (.ref la_230), .val (.ref a_233), .val (.null), .val (.null), .val (.null), .val (.null)] [(.null)])
        refine own_aload X_251 hx (hb hby at_182) (pc' := 184) rfl rfl rfl ?_
        refine own_acmpN X_251 hx rfl rfl (hb hby at_184) (XT.aa_ne_f rfl) (pc' := 187) rfl ?_
        refine own_aload X_251 hx (hb hby at_187) (pc' := 189) rfl rfl rfl ?_
        obtain ⟨cq_252, kq_252, qa_252, qb_252, qc_252⟩ := isOf hZ eq_251 A_248
        obtain ⟨_, _, ⟨T_252, L_252, k_252, n_252⟩, -, X_252, ⟨Lc_252, hQ_252, l_252, y_252, z_252⟩, st_252⟩ := X_251.virtualBack hx  (y := (⟨"com/example/muster/muster/role/RoleRelation", "getNamedId", "()Ljava/lang/String;"⟩ : MethodName)) (z := (⟨"com/example/muster/muster/role/RoleRelation", "getNamedId", "()Ljava/lang/String;"⟩ : MethodName)) hown (mvT hZ (hw _ (List.mem_of_getElem? (i := 67) rfl))) (mvT hZ (hw _ (List.mem_of_getElem? (i := 68) rfl))) (notFace_of_selects (args := #[]) (mvT hZ (hw _ (List.mem_of_getElem? (i := 70) rfl)))) (mvT hZ (hw _ (List.mem_of_getElem? (i := 70) rfl))) (mvT hZ (hw _ (List.mem_of_getElem? (i := 69) rfl))) (by decide) (backOf (W := 0) (rm5 l Z a0 hw [] a_233 (.null) T_242.heap n0 Z_246 F_244 rfl) hZ (hw _ (List.mem_of_getElem? (i := 71) rfl)) (hw _ (List.mem_of_getElem? (i := 35) rfl)) (by decide) (by decide)) qa_252 qc_252 (g := (mkF m 189 #[.val (.int x0), .val (.int x1), .val (.int x2), .val (.int x3), .val (.int x4), .val (.int (0 : Int32)), .val (.null), .val (.null), .val (.ref la_230), .val (.ref a_233), .val (.null), .val (.null), .val (.null), .val (.null)] [(.ref a_233)])) rfl (by rw [hml]; rfl) (Steps.refl _) (argsL := []) (rest := []) (lenOf pd0_2 rfl) rfl (by show 2 * 0 + _ ≤ _; exact Nat.le_of_eq rfl) (hb hby at_189) (fun _ _ => ⟨rfl, eq_251, (by decide : 3 + 0 ≤ _), (by decide : 42 + 0 ≤ _)⟩)
        dsimp only [Pt.U, Pt.locs, Pt.cells, Pt.slots] at X_252 l_252 y_252 z_252 st_252 hQ_252
        subst l_252 y_252 z_252
        refine own_tr st_252 ?_
        obtain ⟨rfl, Nq_252, eq_252⟩ := hQ_252
        have N_252 := Fr.app N_251 Nq_252
        show own_Go p e below _ T_252 (mkF m 192 #[.val (.int x0), .val (.int x1), .val (.int x2), .val (.int x3), .val (.int x4), .val (.int (0 : Int32)), .val (.null), .val (.null), .val (.ref la_230), .val (.ref a_233), .val (.null), .val (.null), .val (.null), .val (.null)] [(.null)])
        refine own_aload X_252 hx (hb hby at_192) (pc' := 194) rfl rfl rfl ?_
        refine own_acmpN X_252 hx rfl rfl (hb hby at_194) (XT.aa_ne_f rfl) (pc' := 197) rfl ?_
        refine own_iconst X_252 hx (1) (hb hby at_197) (pc' := 198) rfl rfl ?_
        refine own_goto X_252 hx (hb hby at_198) (pc' := 202) (by decide) (by decide) ?_
        refine own_retZW X_252 hS (by rw [eq_252]; exact K1_246) hx hlk Bd.returns (by simp) (hb hby at_202) (by decide) (by decide) ?_
        exact ⟨rfl, N_252⟩
  · skip
    refine own_ifN X0 hx (hb hby at_3) (XT.i0_eq_f c_1) (pc' := 6) rfl ?_
    refine own_iconst X0 hx (1) (hb hby at_6) (pc' := 7) rfl rfl ?_
    refine own_goto X0 hx (hb hby at_7) (pc' := 11) (by decide) (by decide) ?_
    refine own_istore X0 hx (hb hby at_11) (pc' := 13) (Ls' := #[.val (.int x0), .val (.int x1), .val (.int x2), .val (.int x3), .val (.int x4), .val (.int (1 : Int32)), .unset, .unset, .unset, .unset, .unset, .unset, .unset, .unset]) rfl rfl ?_
    refine own_iloadN X0 hx (hb hby at_13) (pc' := 14) rfl rfl ?_
    refine own_iconst X0 hx (2) (hb hby at_14) (pc' := 15) rfl rfl ?_
    refine own_iand X0 hx (hb hby at_15) (pc' := 16) rfl ?_
    by_cases c_253 : (x2 &&& (2 : Int32)) = (0 : Int32)
    · skip
      refine own_ifY X0 hx (hb hby at_16) (XT.i0_eq_t c_253) (pc' := 23) (by decide) (by decide) ?_
      obtain ⟨T_254, h_254, X_254, e_254, E_254, A_254, D_254, -, st_254⟩ := newO X0 hx hZ hown (hw _ (List.mem_of_getElem? (i := 0) rfl)) (hw _ (List.mem_of_getElem? (i := 1) rfl)) (hw _ (List.mem_of_getElem? (i := 2) rfl)) e0 (g := (mkF m 23 #[.val (.int x0), .val (.int x1), .val (.int x2), .val (.int x3), .val (.int x4), .val (.int (1 : Int32)), .unset, .unset, .unset, .unset, .unset, .unset, .unset, .unset] [])) rfl (hb hby at_23) (by decide) (by decide)
      obtain ⟨a_254, g_254⟩ : ∃ z, z = h0.size := ⟨_, rfl⟩
      rw [← g_254] at A_254 D_254 st_254
      have ge_254 : n0 ≤ a_254 := Nat.le_trans Z0 (Nat.le_of_eq g_254.symm)
      have O_256 : Old Z n0 h_254 := O_a.ext E_254
      have Z_255 : n0 ≤ h_254.size := Nat.le_trans Z0 E_254.1
      have K1_255 := Nat.le_trans (Nat.le_refl _) E_254.1
      have F_257 : Fld Z h_254 a_254 "java/lang/String" "coder" "B" (.int (0 : Int32)) := D_254 (Or.inr (hw _ (List.mem_of_getElem? (i := 27) rfl))) (ty := .byte) (by decide)
      have F_258 : Fld Z h_254 a_254 "java/lang/String" "value" "[B" (.null) := D_254 (Or.inr (hw _ (List.mem_of_getElem? (i := 29) rfl))) (ty := (.array .byte)) (by decide)
      refine own_st st_254 ?_
      show own_Go p e below _ T_254 (mkF m 26 #[.val (.int x0), .val (.int x1), .val (.int x2), .val (.int x3), .val (.int x4), .val (.int (1 : Int32)), .unset, .unset, .unset, .unset, .unset, .unset, .unset, .unset] [(.ref a_254)])
      refine own_dup X_254 hx (hb hby at_26) (pc' := 27) rfl rfl ?_
      refine own_iconst X_254 hx (2) (hb hby at_27) (pc' := 28) rfl rfl ?_
      obtain ⟨T_259, h_259, kc_259, X_259, e_259, E_259, A_259, st_259⟩ := newP X_254 hx hZ (hw _ (List.mem_of_getElem? (i := 3) rfl)) e_254 (g := (mkF m 28 #[.val (.int x0), .val (.int x1), .val (.int x2), .val (.int x3), .val (.int x4), .val (.int (1 : Int32)), .unset, .unset, .unset, .unset, .unset, .unset, .unset, .unset] [(.int (2 : Int32)), (.ref a_254), (.ref a_254)])) rfl (hb hby at_28) rfl (by decide) (cap := 2) (by decide) (by decide) (by decide) (by decide)
      obtain ⟨a_259, g_259⟩ : ∃ z, z = h_254.size := ⟨_, rfl⟩
      rw [← g_259] at A_259 st_259
      have ge_259 : n0 ≤ a_259 := Nat.le_trans Z_255 (Nat.le_of_eq g_259.symm)
      have ne_259_a_254 : a_254 ≠ a_259 := Nat.ne_of_lt (Nat.lt_of_lt_of_eq A_254.lt g_259.symm)
      have O_261 : Old Z n0 h_259 := O_256.ext E_259
      have A_262 : Exa Z h_259 a_254 "java/lang/String" := A_254.ext E_259
      have F_263 : Fld Z h_259 a_254 "java/lang/String" "coder" "B" (.int (0 : Int32)) := F_257.ext E_259
      have F_264 : Fld Z h_259 a_254 "java/lang/String" "value" "[B" (.null) := F_258.ext E_259
      have Z_260 : n0 ≤ h_259.size := Nat.le_trans Z_255 E_259.1
      have K1_260 := Nat.le_trans K1_255 E_259.1
      have V_265 : Arv Z h_259 a_259 kc_259 .char (2 : Int32) [(.int (0 : Int32)), (.int (0 : Int32))] (.int (0 : Int32)) := (Arv.new A_259 (by decide)).pad (pad_rep [] (.int (0 : Int32)) 2)
      refine own_st st_259 ?_
      show own_Go p e below _ T_259 (mkF m 30 #[.val (.int x0), .val (.int x1), .val (.int x2), .val (.int x3), .val (.int x4), .val (.int (1 : Int32)), .unset, .unset, .unset, .unset, .unset, .unset, .unset, .unset] [(.ref a_259), (.ref a_254), (.ref a_254)])
      refine own_dup X_259 hx (hb hby at_30) (pc' := 31) rfl rfl ?_
      refine own_iconst X_259 hx (0) (hb hby at_31) (pc' := 32) rfl rfl ?_
      refine own_iloadN X_259 hx (hb hby at_32) (pc' := 33) rfl rfl ?_
      refine own_sipush X_259 hx (255) (hb hby at_33) (pc' := 36) rfl (by decide) ?_
      refine own_iand X_259 hx (hb hby at_36) (pc' := 37) rfl ?_
      refine own_i2c X_259 hx (hb hby at_37) (pc' := 38) rfl ?_
      obtain ⟨T_266, h_266, X_266, e_266, W_266, V_266, st_266⟩ := own_castore X_259 hx hZ e_259 V_265 0 (x := (nar .char (x0 &&& (255 : Int32)))) (j := (0 : Int32)) (Ls := #[.val (.int x0), .val (.int x1), .val (.int x2), .val (.int x3), .val (.int x4), .val (.int (1 : Int32)), .unset, .unset, .unset, .unset, .unset, .unset, .unset, .unset]) (st := [(.ref a_259), (.ref a_254), (.ref a_254)]) ⟨by decide, by decide⟩ rfl (Nat.le_of_ble_eq_true rfl) (hb hby at_38)
      have V_267 : Arv Z h_266 a_259 kc_259 .char (2 : Int32) [(.int (nar .char (nar .char (x0 &&& (255 : Int32))))), (.int (0 : Int32))] (.int (0 : Int32)) := V_266
      have O_269 : Old Z n0 h_266 := O_261.wr W_266 ge_259
      have A_270 : Exa Z h_266 a_254 "java/lang/String" := A_262.wr W_266
      have F_271 : Fld Z h_266 a_254 "java/lang/String" "coder" "B" (.int (0 : Int32)) := F_263.other W_266 (Or.inl ne_259_a_254)
      have F_272 : Fld Z h_266 a_254 "java/lang/String" "value" "[B" (.null) := F_264.other W_266 (Or.inl ne_259_a_254)
      have Z_268 : n0 ≤ h_266.size := by rw [W_266.size]; exact Z_260
      have K1_268 := Nat.le_trans K1_260 (Nat.le_of_eq W_266.size.symm)
      have N_266 := Fr.snoc X_266 N0 ge_259
      refine own_st st_266 ?_
      show own_Go p e below _ T_266 (mkF m 39 #[.val (.int x0), .val (.int x1), .val (.int x2), .val (.int x3), .val (.int x4), .val (.int (1 : Int32)), .unset, .unset, .unset, .unset, .unset, .unset, .unset, .unset] [(.ref a_259), (.ref a_254), (.ref a_254)])
      refine own_dup X_266 hx (hb hby at_39) (pc' := 40) rfl rfl ?_
      refine own_iconst X_266 hx (1) (hb hby at_40) (pc' := 41) rfl rfl ?_
      refine own_iloadN X_266 hx (hb hby at_41) (pc' := 42) rfl rfl ?_
      refine own_bipush X_266 hx (8) (hb hby at_42) (pc' := 44) rfl (by decide) ?_
      refine own_iushr X_266 hx (hb hby at_44) (pc' := 45) rfl ?_
      refine own_sipush X_266 hx (255) (hb hby at_45) (pc' := 48) rfl (by decide) ?_
      refine own_iand X_266 hx (hb hby at_48) (pc' := 49) rfl ?_
      refine own_i2c X_266 hx (hb hby at_49) (pc' := 50) rfl ?_
      obtain ⟨T_273, h_273, X_273, e_273, W_273, V_273, st_273⟩ := own_castore X_266 hx hZ e_266 V_267 1 (x := (nar .char ((XT.ushr x0 (8 : Int32)) &&& (255 : Int32)))) (j := (1 : Int32)) (Ls := #[.val (.int x0), .val (.int x1), .val (.int x2), .val (.int x3), .val (.int x4), .val (.int (1 : Int32)), .unset, .unset, .unset, .unset, .unset, .unset, .unset, .unset]) (st := [(.ref a_259), (.ref a_254), (.ref a_254)]) ⟨by decide, by decide⟩ rfl (Nat.le_of_ble_eq_true rfl) (hb hby at_50)
      have V_274 : Arv Z h_273 a_259 kc_259 .char (2 : Int32) [(.int (nar .char (nar .char (x0 &&& (255 : Int32))))), (.int (nar .char (nar .char ((XT.ushr x0 (8 : Int32)) &&& (255 : Int32)))))] (.int (0 : Int32)) := V_273
      have O_276 : Old Z n0 h_273 := O_269.wr W_273 ge_259
      have A_277 : Exa Z h_273 a_254 "java/lang/String" := A_270.wr W_273
      have F_278 : Fld Z h_273 a_254 "java/lang/String" "coder" "B" (.int (0 : Int32)) := F_271.other W_273 (Or.inl ne_259_a_254)
      have F_279 : Fld Z h_273 a_254 "java/lang/String" "value" "[B" (.null) := F_272.other W_273 (Or.inl ne_259_a_254)
      have Z_275 : n0 ≤ h_273.size := by rw [W_273.size]; exact Z_268
      have K1_275 := Nat.le_trans K1_268 (Nat.le_of_eq W_273.size.symm)
      have N_273 := Fr.snoc X_273 N_266 ge_259
      refine own_st st_273 ?_
      show own_Go p e below _ T_273 (mkF m 51 #[.val (.int x0), .val (.int x1), .val (.int x2), .val (.int x3), .val (.int x4), .val (.int (1 : Int32)), .unset, .unset, .unset, .unset, .unset, .unset, .unset, .unset] [(.ref a_259), (.ref a_254), (.ref a_254)])
      have hws_280 : ∀ d ∈ StrChars.Road.words, d.before a0 Z = true := fun d hd => hw d ((by decide +kernel : ∀ d ∈ StrChars.Road.words, d ∈ tables_1) d hd)
      have hp_280 : ∀ c ∈ ([(nar .char (nar .char (x0 &&& (255 : Int32)))), (nar .char (nar .char ((XT.ushr x0 (8 : Int32)) &&& (255 : Int32))))] : List Int32), ¬ c < 0 ∧ ¬ (255 : Int32) < c := by
        intro c hc
        simp only [List.mem_cons, List.not_mem_nil, or_false] at hc
        rcases hc with rfl | rfl <;> exact own_ch255 _
      obtain ⟨_, _, ⟨T_280, L_280, k_280, n_280⟩, -, X_280, ⟨Lc_280, hQ_280, l_280, y_280, z_280⟩, st_280⟩ := X_273.specialBack hx (y := (⟨"java/lang/String", "<init>", "([C)V"⟩ : MethodName)) rfl hown (mvT hZ (hw _ (List.mem_of_getElem? (i := 4) rfl))) (mvT hZ (hw _ (List.mem_of_getElem? (i := 5) rfl))) (mvT hZ (hw _ (List.mem_of_getElem? (i := 6) rfl))) (by decide) (StrChars.Road.backV (W := 1) hZ hws_280 (kI := 4) (hw _ (List.mem_of_getElem? (i := 1) rfl)) (cs := ([(nar .char (nar .char (x0 &&& (255 : Int32)))), (nar .char (nar .char ((XT.ushr x0 (8 : Int32)) &&& (255 : Int32))))] : List Int32)) (bs := ([(nar .char (nar .char (x0 &&& (255 : Int32)))), (nar .char (nar .char ((XT.ushr x0 (8 : Int32)) &&& (255 : Int32))))] : List Int32).map (fun c => c.toInt8.toInt32)) (n := 2) ge_254 Z_275 A_277 F_279 F_278 V_274 (Sz.ext O_276.2) Pz rfl rfl (by decide) (by decide) hp_280 rfl (by decide) (by decide)) (g := (mkF m 51 #[.val (.int x0), .val (.int x1), .val (.int x2), .val (.int x3), .val (.int x4), .val (.int (1 : Int32)), .unset, .unset, .unset, .unset, .unset, .unset, .unset, .unset] [(.ref a_259), (.ref a_254), (.ref a_254)])) rfl (by rw [hml]; rfl) (Steps.refl _) (a := a_254) (argsL := [(.ref a_259)]) (rest := [(.ref a_254)]) (lenOf pd0_0 rfl) rfl (by show 2 * 0 + _ ≤ _; exact Nat.le_of_eq rfl) (hb hby at_51) (fun _ _ => ⟨rfl, e_273, (by decide : 2 + 1 ≤ _), (by decide : 6 + 2 ≤ _)⟩)
      dsimp only [Pt.U, Pt.locs, Pt.cells, Pt.slots] at X_280 l_280 y_280 z_280 st_280 hQ_280
      subst l_280 y_280 z_280
      refine own_tr st_280 ?_
      obtain ⟨rfl, Nq_280, Kq_280, A_q280, F_c280, t_280, kb_280, gt_280, ht_280, nt_280, F_v280, V_b280⟩ := hQ_280
      have N_280 := Fr.app N_273 Nq_280
      have ne_280_a_259 : a_259 ≠ t_280 := Nat.ne_of_lt (Nat.lt_of_lt_of_le V_274.lt ht_280)
      have ne_280_a_254 : a_254 ≠ t_280 := Nat.ne_of_lt (Nat.lt_of_lt_of_le A_277.lt ht_280)
      have V_282 : Arv Z T_280.heap a_259 kc_259 .char (2 : Int32) [(.int (nar .char (nar .char (x0 &&& (255 : Int32))))), (.int (nar .char (nar .char ((XT.ushr x0 (8 : Int32)) &&& (255 : Int32)))))] (.int (0 : Int32)) := V_274.keep Kq_280 (ninS (Ne.symm ne_259_a_254) nin0)
      have O_283 : Old Z n0 T_280.heap := O_276.keep Kq_280 (allS ge_254 all0)
      have Z_281 : n0 ≤ T_280.heap.size := Nat.le_trans Z_275 Kq_280.1
      have K1_281 := Nat.le_trans K1_275 Kq_280.1
      show own_Go p e below _ T_280 (mkF m 54 #[.val (.int x0), .val (.int x1), .val (.int x2), .val (.int x3), .val (.int x4), .val (.int (1 : Int32)), .unset, .unset, .unset, .unset, .unset, .unset, .unset, .unset] [(.ref a_254)])
      refine own_astore X_280 hx (hb hby at_54) (pc' := 56) (Ls' := #[.val (.int x0), .val (.int x1), .val (.int x2), .val (.int x3), .val (.int x4), .val (.int (1 : Int32)), .val (.ref a_254), .unset, .unset, .unset, .unset, .unset, .unset, .unset]) rfl rfl rfl ?_
      refine own_iloadN X_280 hx (hb hby at_56) (pc' := 57) rfl rfl ?_
      refine own_iconst X_280 hx (4) (hb hby at_57) (pc' := 58) rfl rfl ?_
      refine own_iand X_280 hx (hb hby at_58) (pc' := 59) rfl ?_
      by_cases c_284 : (x2 &&& (4 : Int32)) = (0 : Int32)
      · skip
        refine own_ifY X_280 hx (hb hby at_59) (XT.i0_eq_t c_284) (pc' := 66) (by decide) (by decide) ?_
        obtain ⟨T_285, h_285, X_285, e_285, E_285, A_285, D_285, -, st_285⟩ := newO X_280 hx hZ hown (hw _ (List.mem_of_getElem? (i := 0) rfl)) (hw _ (List.mem_of_getElem? (i := 1) rfl)) (hw _ (List.mem_of_getElem? (i := 2) rfl)) rfl (g := (mkF m 66 #[.val (.int x0), .val (.int x1), .val (.int x2), .val (.int x3), .val (.int x4), .val (.int (1 : Int32)), .val (.ref a_254), .unset, .unset, .unset, .unset, .unset, .unset, .unset] [])) rfl (hb hby at_66) (by decide) (by decide)
        obtain ⟨a_285, g_285⟩ : ∃ z, z = T_280.heap.size := ⟨_, rfl⟩
        rw [← g_285] at A_285 D_285 st_285
        have ge_285 : n0 ≤ a_285 := Nat.le_trans Z_281 (Nat.le_of_eq g_285.symm)
        have ne_285_a_254 : a_254 ≠ a_285 := Nat.ne_of_lt (Nat.lt_of_lt_of_eq A_q280.lt g_285.symm)
        have ne_285_t_280 : t_280 ≠ a_285 := Nat.ne_of_lt (Nat.lt_of_lt_of_eq V_b280.lt g_285.symm)
        have ne_285_a_259 : a_259 ≠ a_285 := Nat.ne_of_lt (Nat.lt_of_lt_of_eq V_282.lt g_285.symm)
        have A_287 : Exa Z h_285 a_254 "java/lang/String" := A_q280.ext E_285
        have F_288 : Fld Z h_285 a_254 "java/lang/String" "coder" "B" (.int 0) := F_c280.ext E_285
        have F_289 : Fld Z h_285 a_254 "java/lang/String" "value" "[B" (.ref t_280) := F_v280.ext E_285
        have V_290 : Arv Z h_285 t_280 kb_280 .byte (2 : Int32) ((([(nar .char (nar .char (x0 &&& (255 : Int32)))), (nar .char (nar .char ((XT.ushr x0 (8 : Int32)) &&& (255 : Int32))))] : List Int32).map (fun c => c.toInt8.toInt32)).map Value.int) (.int 0) := V_b280.ext E_285
        have V_291 : Arv Z h_285 a_259 kc_259 .char (2 : Int32) [(.int (nar .char (nar .char (x0 &&& (255 : Int32))))), (.int (nar .char (nar .char ((XT.ushr x0 (8 : Int32)) &&& (255 : Int32)))))] (.int (0 : Int32)) := V_282.ext E_285
        have O_292 : Old Z n0 h_285 := O_283.ext E_285
        have Z_286 : n0 ≤ h_285.size := Nat.le_trans Z_281 E_285.1
        have K1_286 := Nat.le_trans K1_281 E_285.1
        have F_293 : Fld Z h_285 a_285 "java/lang/String" "coder" "B" (.int (0 : Int32)) := D_285 (Or.inr (hw _ (List.mem_of_getElem? (i := 27) rfl))) (ty := .byte) (by decide)
        have F_294 : Fld Z h_285 a_285 "java/lang/String" "value" "[B" (.null) := D_285 (Or.inr (hw _ (List.mem_of_getElem? (i := 29) rfl))) (ty := (.array .byte)) (by decide)
        refine own_st st_285 ?_
        show own_Go p e below _ T_285 (mkF m 69 #[.val (.int x0), .val (.int x1), .val (.int x2), .val (.int x3), .val (.int x4), .val (.int (1 : Int32)), .val (.ref a_254), .unset, .unset, .unset, .unset, .unset, .unset, .unset] [(.ref a_285)])
        refine own_dup X_285 hx (hb hby at_69) (pc' := 70) rfl rfl ?_
        refine own_iconst X_285 hx (1) (hb hby at_70) (pc' := 71) rfl rfl ?_
        obtain ⟨T_295, h_295, kc_295, X_295, e_295, E_295, A_295, st_295⟩ := newP X_285 hx hZ (hw _ (List.mem_of_getElem? (i := 3) rfl)) e_285 (g := (mkF m 71 #[.val (.int x0), .val (.int x1), .val (.int x2), .val (.int x3), .val (.int x4), .val (.int (1 : Int32)), .val (.ref a_254), .unset, .unset, .unset, .unset, .unset, .unset, .unset] [(.int (1 : Int32)), (.ref a_285), (.ref a_285)])) rfl (hb hby at_71) rfl (by decide) (cap := 1) (by decide) (by decide) (by decide) (by decide)
        obtain ⟨a_295, g_295⟩ : ∃ z, z = h_285.size := ⟨_, rfl⟩
        rw [← g_295] at A_295 st_295
        have ge_295 : n0 ≤ a_295 := Nat.le_trans Z_286 (Nat.le_of_eq g_295.symm)
        have ne_295_a_254 : a_254 ≠ a_295 := Nat.ne_of_lt (Nat.lt_of_lt_of_eq A_287.lt g_295.symm)
        have ne_295_t_280 : t_280 ≠ a_295 := Nat.ne_of_lt (Nat.lt_of_lt_of_eq V_290.lt g_295.symm)
        have ne_295_a_259 : a_259 ≠ a_295 := Nat.ne_of_lt (Nat.lt_of_lt_of_eq V_291.lt g_295.symm)
        have ne_295_a_285 : a_285 ≠ a_295 := Nat.ne_of_lt (Nat.lt_of_lt_of_eq A_285.lt g_295.symm)
        have A_297 : Exa Z h_295 a_254 "java/lang/String" := A_287.ext E_295
        have F_298 : Fld Z h_295 a_254 "java/lang/String" "coder" "B" (.int 0) := F_288.ext E_295
        have F_299 : Fld Z h_295 a_254 "java/lang/String" "value" "[B" (.ref t_280) := F_289.ext E_295
        have V_300 : Arv Z h_295 t_280 kb_280 .byte (2 : Int32) ((([(nar .char (nar .char (x0 &&& (255 : Int32)))), (nar .char (nar .char ((XT.ushr x0 (8 : Int32)) &&& (255 : Int32))))] : List Int32).map (fun c => c.toInt8.toInt32)).map Value.int) (.int 0) := V_290.ext E_295
        have V_301 : Arv Z h_295 a_259 kc_259 .char (2 : Int32) [(.int (nar .char (nar .char (x0 &&& (255 : Int32))))), (.int (nar .char (nar .char ((XT.ushr x0 (8 : Int32)) &&& (255 : Int32)))))] (.int (0 : Int32)) := V_291.ext E_295
        have O_302 : Old Z n0 h_295 := O_292.ext E_295
        have A_303 : Exa Z h_295 a_285 "java/lang/String" := A_285.ext E_295
        have F_304 : Fld Z h_295 a_285 "java/lang/String" "coder" "B" (.int (0 : Int32)) := F_293.ext E_295
        have F_305 : Fld Z h_295 a_285 "java/lang/String" "value" "[B" (.null) := F_294.ext E_295
        have Z_296 : n0 ≤ h_295.size := Nat.le_trans Z_286 E_295.1
        have K1_296 := Nat.le_trans K1_286 E_295.1
        have V_306 : Arv Z h_295 a_295 kc_295 .char (1 : Int32) [(.int (0 : Int32))] (.int (0 : Int32)) := (Arv.new A_295 (by decide)).pad (pad_rep [] (.int (0 : Int32)) 1)
        refine own_st st_295 ?_
        show own_Go p e below _ T_295 (mkF m 73 #[.val (.int x0), .val (.int x1), .val (.int x2), .val (.int x3), .val (.int x4), .val (.int (1 : Int32)), .val (.ref a_254), .unset, .unset, .unset, .unset, .unset, .unset, .unset] [(.ref a_295), (.ref a_285), (.ref a_285)])
        refine own_dup X_295 hx (hb hby at_73) (pc' := 74) rfl rfl ?_
        refine own_iconst X_295 hx (0) (hb hby at_74) (pc' := 75) rfl rfl ?_
        refine own_iloadN X_295 hx (hb hby at_75) (pc' := 76) rfl rfl ?_
        refine own_sipush X_295 hx (255) (hb hby at_76) (pc' := 79) rfl (by decide) ?_
        refine own_iand X_295 hx (hb hby at_79) (pc' := 80) rfl ?_
        refine own_i2c X_295 hx (hb hby at_80) (pc' := 81) rfl ?_
        obtain ⟨T_307, h_307, X_307, e_307, W_307, V_307, st_307⟩ := own_castore X_295 hx hZ e_295 V_306 0 (x := (nar .char (x1 &&& (255 : Int32)))) (j := (0 : Int32)) (Ls := #[.val (.int x0), .val (.int x1), .val (.int x2), .val (.int x3), .val (.int x4), .val (.int (1 : Int32)), .val (.ref a_254), .unset, .unset, .unset, .unset, .unset, .unset, .unset]) (st := [(.ref a_295), (.ref a_285), (.ref a_285)]) ⟨by decide, by decide⟩ rfl (Nat.le_of_ble_eq_true rfl) (hb hby at_81)
        have V_308 : Arv Z h_307 a_295 kc_295 .char (1 : Int32) [(.int (nar .char (nar .char (x1 &&& (255 : Int32)))))] (.int (0 : Int32)) := V_307
        have A_310 : Exa Z h_307 a_254 "java/lang/String" := A_297.wr W_307
        have F_311 : Fld Z h_307 a_254 "java/lang/String" "coder" "B" (.int 0) := F_298.other W_307 (Or.inl ne_295_a_254)
        have F_312 : Fld Z h_307 a_254 "java/lang/String" "value" "[B" (.ref t_280) := F_299.other W_307 (Or.inl ne_295_a_254)
        have V_313 : Arv Z h_307 t_280 kb_280 .byte (2 : Int32) ((([(nar .char (nar .char (x0 &&& (255 : Int32)))), (nar .char (nar .char ((XT.ushr x0 (8 : Int32)) &&& (255 : Int32))))] : List Int32).map (fun c => c.toInt8.toInt32)).map Value.int) (.int 0) := V_300.other W_307 ne_295_t_280
        have V_314 : Arv Z h_307 a_259 kc_259 .char (2 : Int32) [(.int (nar .char (nar .char (x0 &&& (255 : Int32))))), (.int (nar .char (nar .char ((XT.ushr x0 (8 : Int32)) &&& (255 : Int32)))))] (.int (0 : Int32)) := V_301.other W_307 ne_295_a_259
        have O_315 : Old Z n0 h_307 := O_302.wr W_307 ge_295
        have A_316 : Exa Z h_307 a_285 "java/lang/String" := A_303.wr W_307
        have F_317 : Fld Z h_307 a_285 "java/lang/String" "coder" "B" (.int (0 : Int32)) := F_304.other W_307 (Or.inl ne_295_a_285)
        have F_318 : Fld Z h_307 a_285 "java/lang/String" "value" "[B" (.null) := F_305.other W_307 (Or.inl ne_295_a_285)
        have Z_309 : n0 ≤ h_307.size := by rw [W_307.size]; exact Z_296
        have K1_309 := Nat.le_trans K1_296 (Nat.le_of_eq W_307.size.symm)
        have N_307 := Fr.snoc X_307 N_280 ge_295
        refine own_st st_307 ?_
        show own_Go p e below _ T_307 (mkF m 82 #[.val (.int x0), .val (.int x1), .val (.int x2), .val (.int x3), .val (.int x4), .val (.int (1 : Int32)), .val (.ref a_254), .unset, .unset, .unset, .unset, .unset, .unset, .unset] [(.ref a_295), (.ref a_285), (.ref a_285)])
        have hws_319 : ∀ d ∈ StrChars.Road.words, d.before a0 Z = true := fun d hd => hw d ((by decide +kernel : ∀ d ∈ StrChars.Road.words, d ∈ tables_1) d hd)
        have hp_319 : ∀ c ∈ ([(nar .char (nar .char (x1 &&& (255 : Int32))))] : List Int32), ¬ c < 0 ∧ ¬ (255 : Int32) < c := by
          intro c hc
          simp only [List.mem_cons, List.not_mem_nil, or_false] at hc
          rcases hc with rfl <;> exact own_ch255 _
        obtain ⟨_, _, ⟨T_319, L_319, k_319, n_319⟩, -, X_319, ⟨Lc_319, hQ_319, l_319, y_319, z_319⟩, st_319⟩ := X_307.specialBack hx (y := (⟨"java/lang/String", "<init>", "([C)V"⟩ : MethodName)) rfl hown (mvT hZ (hw _ (List.mem_of_getElem? (i := 4) rfl))) (mvT hZ (hw _ (List.mem_of_getElem? (i := 5) rfl))) (mvT hZ (hw _ (List.mem_of_getElem? (i := 6) rfl))) (by decide) (StrChars.Road.backV (W := 1) hZ hws_319 (kI := 4) (hw _ (List.mem_of_getElem? (i := 1) rfl)) (cs := ([(nar .char (nar .char (x1 &&& (255 : Int32))))] : List Int32)) (bs := ([(nar .char (nar .char (x1 &&& (255 : Int32))))] : List Int32).map (fun c => c.toInt8.toInt32)) (n := 1) ge_285 Z_309 A_316 F_318 F_317 V_308 (Sz.ext O_315.2) Pz rfl rfl (by decide) (by decide) hp_319 rfl (by decide) (by decide)) (g := (mkF m 82 #[.val (.int x0), .val (.int x1), .val (.int x2), .val (.int x3), .val (.int x4), .val (.int (1 : Int32)), .val (.ref a_254), .unset, .unset, .unset, .unset, .unset, .unset, .unset] [(.ref a_295), (.ref a_285), (.ref a_285)])) rfl (by rw [hml]; rfl) (Steps.refl _) (a := a_285) (argsL := [(.ref a_295)]) (rest := [(.ref a_285)]) (lenOf pd0_0 rfl) rfl (by show 2 * 0 + _ ≤ _; exact Nat.le_of_eq rfl) (hb hby at_82) (fun _ _ => ⟨rfl, e_307, (by decide : 5 + 1 ≤ _), (by decide : 13 + 1 ≤ _)⟩)
        dsimp only [Pt.U, Pt.locs, Pt.cells, Pt.slots] at X_319 l_319 y_319 z_319 st_319 hQ_319
        subst l_319 y_319 z_319
        refine own_tr st_319 ?_
        obtain ⟨rfl, Nq_319, Kq_319, A_q319, F_c319, t_319, kb_319, gt_319, ht_319, nt_319, F_v319, V_b319⟩ := hQ_319
        have N_319 := Fr.app N_307 Nq_319
        have ne_319_a_295 : a_295 ≠ t_319 := Nat.ne_of_lt (Nat.lt_of_lt_of_le V_308.lt ht_319)
        have ne_319_a_254 : a_254 ≠ t_319 := Nat.ne_of_lt (Nat.lt_of_lt_of_le A_310.lt ht_319)
        have ne_319_t_280 : t_280 ≠ t_319 := Nat.ne_of_lt (Nat.lt_of_lt_of_le V_313.lt ht_319)
        have ne_319_a_259 : a_259 ≠ t_319 := Nat.ne_of_lt (Nat.lt_of_lt_of_le V_314.lt ht_319)
        have ne_319_a_285 : a_285 ≠ t_319 := Nat.ne_of_lt (Nat.lt_of_lt_of_le A_316.lt ht_319)
        have V_321 : Arv Z T_319.heap a_295 kc_295 .char (1 : Int32) [(.int (nar .char (nar .char (x1 &&& (255 : Int32)))))] (.int (0 : Int32)) := V_308.keep Kq_319 (ninS (Ne.symm ne_295_a_285) nin0)
        have A_322 : Exa Z T_319.heap a_254 "java/lang/String" := A_310.keep Kq_319
        have F_323 : Fld Z T_319.heap a_254 "java/lang/String" "coder" "B" (.int 0) := F_311.keep Kq_319 (ninS ne_285_a_254 nin0)
        have F_324 : Fld Z T_319.heap a_254 "java/lang/String" "value" "[B" (.ref t_280) := F_312.keep Kq_319 (ninS ne_285_a_254 nin0)
        have V_325 : Arv Z T_319.heap t_280 kb_280 .byte (2 : Int32) ((([(nar .char (nar .char (x0 &&& (255 : Int32)))), (nar .char (nar .char ((XT.ushr x0 (8 : Int32)) &&& (255 : Int32))))] : List Int32).map (fun c => c.toInt8.toInt32)).map Value.int) (.int 0) := V_313.keep Kq_319 (ninS ne_285_t_280 nin0)
        have V_326 : Arv Z T_319.heap a_259 kc_259 .char (2 : Int32) [(.int (nar .char (nar .char (x0 &&& (255 : Int32))))), (.int (nar .char (nar .char ((XT.ushr x0 (8 : Int32)) &&& (255 : Int32)))))] (.int (0 : Int32)) := V_314.keep Kq_319 (ninS ne_285_a_259 nin0)
        have O_327 : Old Z n0 T_319.heap := O_315.keep Kq_319 (allS ge_285 all0)
        have Z_320 : n0 ≤ T_319.heap.size := Nat.le_trans Z_309 Kq_319.1
        have K1_320 := Nat.le_trans K1_309 Kq_319.1
        show own_Go p e below _ T_319 (mkF m 85 #[.val (.int x0), .val (.int x1), .val (.int x2), .val (.int x3), .val (.int x4), .val (.int (1 : Int32)), .val (.ref a_254), .unset, .unset, .unset, .unset, .unset, .unset, .unset] [(.ref a_285)])
        refine own_astore X_319 hx (hb hby at_85) (pc' := 87) (Ls' := #[.val (.int x0), .val (.int x1), .val (.int x2), .val (.int x3), .val (.int x4), .val (.int (1 : Int32)), .val (.ref a_254), .val (.ref a_285), .unset, .unset, .unset, .unset, .unset, .unset]) rfl rfl rfl ?_
        refine own_iload X_319 hx (hb hby at_87) (pc' := 89) rfl rfl ?_
        refine own_ifN X_319 hx (hb hby at_89) (by decide) (pc' := 92) rfl ?_
        obtain ⟨la_328, T_328, h_328, kn_328, X_328, e_328, E_328, hS, hkn_328, hZ, hown, st_328⟩ := ldcS X_319 hx hZ hown (hw _ (List.mem_of_getElem? (i := 72) rfl)) own_wS rfl hS K1_320 (g := (mkF m 92 #[.val (.int x0), .val (.int x1), .val (.int x2), .val (.int x3), .val (.int x4), .val (.int (1 : Int32)), .val (.ref a_254), .val (.ref a_285), .unset, .unset, .unset, .unset, .unset, .unset] [])) rfl (hb hby at_92) (n := 44) (by decide) (by decide) (by decide) (by decide)
        have A_330 : Exa Z h_328 a_285 "java/lang/String" := A_q319.ext E_328
        have F_331 : Fld Z h_328 a_285 "java/lang/String" "coder" "B" (.int 0) := F_c319.ext E_328
        have F_332 : Fld Z h_328 a_285 "java/lang/String" "value" "[B" (.ref t_319) := F_v319.ext E_328
        have V_333 : Arv Z h_328 t_319 kb_319 .byte (1 : Int32) ((([(nar .char (nar .char (x1 &&& (255 : Int32))))] : List Int32).map (fun c => c.toInt8.toInt32)).map Value.int) (.int 0) := V_b319.ext E_328
        have V_334 : Arv Z h_328 a_295 kc_295 .char (1 : Int32) [(.int (nar .char (nar .char (x1 &&& (255 : Int32)))))] (.int (0 : Int32)) := V_321.ext E_328
        have A_335 : Exa Z h_328 a_254 "java/lang/String" := A_322.ext E_328
        have F_336 : Fld Z h_328 a_254 "java/lang/String" "coder" "B" (.int 0) := F_323.ext E_328
        have F_337 : Fld Z h_328 a_254 "java/lang/String" "value" "[B" (.ref t_280) := F_324.ext E_328
        have V_338 : Arv Z h_328 t_280 kb_280 .byte (2 : Int32) ((([(nar .char (nar .char (x0 &&& (255 : Int32)))), (nar .char (nar .char ((XT.ushr x0 (8 : Int32)) &&& (255 : Int32))))] : List Int32).map (fun c => c.toInt8.toInt32)).map Value.int) (.int 0) := V_325.ext E_328
        have V_339 : Arv Z h_328 a_259 kc_259 .char (2 : Int32) [(.int (nar .char (nar .char (x0 &&& (255 : Int32))))), (.int (nar .char (nar .char ((XT.ushr x0 (8 : Int32)) &&& (255 : Int32)))))] (.int (0 : Int32)) := V_326.ext E_328
        have O_340 : Old Z n0 h_328 := O_327.ext E_328
        have Z_329 : n0 ≤ h_328.size := Nat.le_trans Z_320 E_328.1
        refine own_st st_328 ?_
        show own_Go p e below _ T_328 (mkF m 94 #[.val (.int x0), .val (.int x1), .val (.int x2), .val (.int x3), .val (.int x4), .val (.int (1 : Int32)), .val (.ref a_254), .val (.ref a_285), .unset, .unset, .unset, .unset, .unset, .unset] [(.ref la_328)])
        refine own_goto X_328 hx (hb hby at_94) (pc' := 99) (by decide) (by decide) ?_
        refine own_astore X_328 hx (hb hby at_99) (pc' := 101) (Ls' := #[.val (.int x0), .val (.int x1), .val (.int x2), .val (.int x3), .val (.int x4), .val (.int (1 : Int32)), .val (.ref a_254), .val (.ref a_285), .val (.ref la_328), .unset, .unset, .unset, .unset, .unset]) rfl rfl rfl ?_
        obtain ⟨T_341, h_341, X_341, e_341, E_341, A_341, D_341, -, st_341⟩ := newO X_328 hx hZ hown (hw _ (List.mem_of_getElem? (i := 33) rfl)) (hw _ (List.mem_of_getElem? (i := 34) rfl)) (hw _ (List.mem_of_getElem? (i := 35) rfl)) e_328 (g := (mkF m 101 #[.val (.int x0), .val (.int x1), .val (.int x2), .val (.int x3), .val (.int x4), .val (.int (1 : Int32)), .val (.ref a_254), .val (.ref a_285), .val (.ref la_328), .unset, .unset, .unset, .unset, .unset] [])) rfl (hb hby at_101) (by decide) (by decide)
        obtain ⟨a_341, g_341⟩ : ∃ z, z = h_328.size := ⟨_, rfl⟩
        rw [← g_341] at A_341 D_341 st_341
        have ge_341 : n0 ≤ a_341 := Nat.le_trans Z_329 (Nat.le_of_eq g_341.symm)
        have ne_341_a_285 : a_285 ≠ a_341 := Nat.ne_of_lt (Nat.lt_of_lt_of_eq A_330.lt g_341.symm)
        have ne_341_t_319 : t_319 ≠ a_341 := Nat.ne_of_lt (Nat.lt_of_lt_of_eq V_333.lt g_341.symm)
        have ne_341_a_295 : a_295 ≠ a_341 := Nat.ne_of_lt (Nat.lt_of_lt_of_eq V_334.lt g_341.symm)
        have ne_341_a_254 : a_254 ≠ a_341 := Nat.ne_of_lt (Nat.lt_of_lt_of_eq A_335.lt g_341.symm)
        have ne_341_t_280 : t_280 ≠ a_341 := Nat.ne_of_lt (Nat.lt_of_lt_of_eq V_338.lt g_341.symm)
        have ne_341_a_259 : a_259 ≠ a_341 := Nat.ne_of_lt (Nat.lt_of_lt_of_eq V_339.lt g_341.symm)
        have A_343 : Exa Z h_341 a_285 "java/lang/String" := A_330.ext E_341
        have F_344 : Fld Z h_341 a_285 "java/lang/String" "coder" "B" (.int 0) := F_331.ext E_341
        have F_345 : Fld Z h_341 a_285 "java/lang/String" "value" "[B" (.ref t_319) := F_332.ext E_341
        have V_346 : Arv Z h_341 t_319 kb_319 .byte (1 : Int32) ((([(nar .char (nar .char (x1 &&& (255 : Int32))))] : List Int32).map (fun c => c.toInt8.toInt32)).map Value.int) (.int 0) := V_333.ext E_341
        have V_347 : Arv Z h_341 a_295 kc_295 .char (1 : Int32) [(.int (nar .char (nar .char (x1 &&& (255 : Int32)))))] (.int (0 : Int32)) := V_334.ext E_341
        have A_348 : Exa Z h_341 a_254 "java/lang/String" := A_335.ext E_341
        have F_349 : Fld Z h_341 a_254 "java/lang/String" "coder" "B" (.int 0) := F_336.ext E_341
        have F_350 : Fld Z h_341 a_254 "java/lang/String" "value" "[B" (.ref t_280) := F_337.ext E_341
        have V_351 : Arv Z h_341 t_280 kb_280 .byte (2 : Int32) ((([(nar .char (nar .char (x0 &&& (255 : Int32)))), (nar .char (nar .char ((XT.ushr x0 (8 : Int32)) &&& (255 : Int32))))] : List Int32).map (fun c => c.toInt8.toInt32)).map Value.int) (.int 0) := V_338.ext E_341
        have V_352 : Arv Z h_341 a_259 kc_259 .char (2 : Int32) [(.int (nar .char (nar .char (x0 &&& (255 : Int32))))), (.int (nar .char (nar .char ((XT.ushr x0 (8 : Int32)) &&& (255 : Int32)))))] (.int (0 : Int32)) := V_339.ext E_341
        have O_353 : Old Z n0 h_341 := O_340.ext E_341
        have Z_342 : n0 ≤ h_341.size := Nat.le_trans Z_329 E_341.1
        have K1_342 := Nat.le_trans hkn_328 E_341.1
        have F_354 : Fld Z h_341 a_341 "com/example/muster/muster/role/RoleRelation" "roleId" "Ljava/lang/String;" (.null) := D_341 (Or.inr (hw _ (List.mem_of_getElem? (i := 41) rfl))) (ty := (.object "java/lang/String")) (by decide)
        have F_355 : Fld Z h_341 a_341 "com/example/muster/muster/role/RoleRelation" "namedId" "Ljava/lang/String;" (.null) := D_341 (Or.inr (hw _ (List.mem_of_getElem? (i := 43) rfl))) (ty := (.object "java/lang/String")) (by decide)
        have F_356 : Fld Z h_341 a_341 "com/example/muster/muster/role/RoleRelation" "namesParent" "Z" (.int (0 : Int32)) := D_341 (Or.inr (hw _ (List.mem_of_getElem? (i := 45) rfl))) (ty := .boolean) (by decide)
        have F_357 : Fld Z h_341 a_341 "com/example/muster/muster/role/RoleRelation" "element" "Ljava/lang/String;" (.null) := D_341 (Or.inr (hw _ (List.mem_of_getElem? (i := 47) rfl))) (ty := (.object "java/lang/String")) (by decide)
        have F_358 : Fld Z h_341 a_341 "com/example/muster/muster/role/RoleRelation" "line" "I" (.int (0 : Int32)) := D_341 (Or.inr (hw _ (List.mem_of_getElem? (i := 49) rfl))) (ty := .int) (by decide)
        have F_359 : Fld Z h_341 a_341 "com/example/muster/muster/role/RoleRelation" "column" "I" (.int (0 : Int32)) := D_341 (Or.inr (hw _ (List.mem_of_getElem? (i := 51) rfl))) (ty := .int) (by decide)
        refine own_st st_341 ?_
        show own_Go p e below _ T_341 (mkF m 104 #[.val (.int x0), .val (.int x1), .val (.int x2), .val (.int x3), .val (.int x4), .val (.int (1 : Int32)), .val (.ref a_254), .val (.ref a_285), .val (.ref la_328), .unset, .unset, .unset, .unset, .unset] [(.ref a_341)])
        refine own_dup X_341 hx (hb hby at_104) (pc' := 105) rfl rfl ?_
        refine own_aload X_341 hx (hb hby at_105) (pc' := 107) rfl rfl rfl ?_
        refine own_aload X_341 hx (hb hby at_107) (pc' := 109) rfl rfl rfl ?_
        refine own_iload X_341 hx (hb hby at_109) (pc' := 111) rfl rfl ?_
        refine own_aload X_341 hx (hb hby at_111) (pc' := 113) rfl rfl rfl ?_
        refine own_iloadN X_341 hx (hb hby at_113) (pc' := 114) rfl rfl ?_
        refine own_iload X_341 hx (hb hby at_114) (pc' := 116) rfl rfl ?_
        obtain ⟨_, _, ⟨T_360, L_360, k_360, n_360⟩, -, X_360, ⟨Lc_360, hQ_360, l_360, y_360, z_360⟩, st_360⟩ := X_341.specialBack hx  (y := (⟨"com/example/muster/muster/role/RoleRelation", "<init>", "(Ljava/lang/String;Ljava/lang/String;ZLjava/lang/String;II)V"⟩ : MethodName)) rfl hown (mvT hZ (hw _ (List.mem_of_getElem? (i := 36) rfl))) (mvT hZ (hw _ (List.mem_of_getElem? (i := 37) rfl))) (mvT hZ (hw _ (List.mem_of_getElem? (i := 38) rfl))) (by decide) (backOf (W := 1) (rm1 l Z a0 hw [] a_341 (.ref a_254) (.ref a_285) (1 : Int32) la_328 x3 x4 h_341 n0 Z_342 rfl rfl A_341 F_354 F_355 F_356 F_357 F_358 F_359 ge_341 rfl rfl) hZ (hw _ (List.mem_of_getElem? (i := 38) rfl)) (hw _ (List.mem_of_getElem? (i := 35) rfl)) (by decide) (by decide)) (g := (mkF m 116 #[.val (.int x0), .val (.int x1), .val (.int x2), .val (.int x3), .val (.int x4), .val (.int (1 : Int32)), .val (.ref a_254), .val (.ref a_285), .val (.ref la_328), .unset, .unset, .unset, .unset, .unset] [(.int x4), (.int x3), (.ref la_328), (.int (1 : Int32)), (.ref a_285), (.ref a_254), (.ref a_341), (.ref a_341)])) rfl (by rw [hml]; rfl) (Steps.refl _) (a := a_341) (argsL := [(.ref a_254), (.ref a_285), (.int (1 : Int32)), (.ref la_328), (.int x3), (.int x4)]) (rest := [(.ref a_341)]) (lenOf pd0_1 rfl) rfl (by show 2 * 0 + _ ≤ _; exact Nat.le_of_eq rfl) (hb hby at_116) (fun _ _ => ⟨rfl, e_341, (by decide : 9 + 0 ≤ _), (by decide : 68 + 0 ≤ _)⟩)
        dsimp only [Pt.U, Pt.locs, Pt.cells, Pt.slots] at X_360 l_360 y_360 z_360 st_360 hQ_360
        subst l_360 y_360 z_360
        refine own_tr st_360 ?_
        obtain ⟨rfl, Nq_360, Kq_360, q0_360, q1_360, q2_360⟩ := hQ_360
        have N_360 := Fr.app N_319 Nq_360
        have F_361 : Fld Z T_360.heap a_341 "com/example/muster/muster/role/RoleRelation" "roleId" "Ljava/lang/String;" (.ref a_254) := q0_360
        have F_362 : Fld Z T_360.heap a_341 "com/example/muster/muster/role/RoleRelation" "namedId" "Ljava/lang/String;" (.ref a_285) := q1_360
        have F_363 : Fld Z T_360.heap a_341 "com/example/muster/muster/role/RoleRelation" "namesParent" "Z" (.int (1 : Int32)) := q2_360
        have A_365 : Exa Z T_360.heap a_285 "java/lang/String" := A_343.keep Kq_360
        have F_366 : Fld Z T_360.heap a_285 "java/lang/String" "coder" "B" (.int 0) := F_344.keep Kq_360 (ninS ne_341_a_285 nin0)
        have F_367 : Fld Z T_360.heap a_285 "java/lang/String" "value" "[B" (.ref t_319) := F_345.keep Kq_360 (ninS ne_341_a_285 nin0)
        have V_368 : Arv Z T_360.heap t_319 kb_319 .byte (1 : Int32) ((([(nar .char (nar .char (x1 &&& (255 : Int32))))] : List Int32).map (fun c => c.toInt8.toInt32)).map Value.int) (.int 0) := V_346.keep Kq_360 (ninS ne_341_t_319 nin0)
        have V_369 : Arv Z T_360.heap a_295 kc_295 .char (1 : Int32) [(.int (nar .char (nar .char (x1 &&& (255 : Int32)))))] (.int (0 : Int32)) := V_347.keep Kq_360 (ninS ne_341_a_295 nin0)
        have A_370 : Exa Z T_360.heap a_254 "java/lang/String" := A_348.keep Kq_360
        have F_371 : Fld Z T_360.heap a_254 "java/lang/String" "coder" "B" (.int 0) := F_349.keep Kq_360 (ninS ne_341_a_254 nin0)
        have F_372 : Fld Z T_360.heap a_254 "java/lang/String" "value" "[B" (.ref t_280) := F_350.keep Kq_360 (ninS ne_341_a_254 nin0)
        have V_373 : Arv Z T_360.heap t_280 kb_280 .byte (2 : Int32) ((([(nar .char (nar .char (x0 &&& (255 : Int32)))), (nar .char (nar .char ((XT.ushr x0 (8 : Int32)) &&& (255 : Int32))))] : List Int32).map (fun c => c.toInt8.toInt32)).map Value.int) (.int 0) := V_351.keep Kq_360 (ninS ne_341_t_280 nin0)
        have V_374 : Arv Z T_360.heap a_259 kc_259 .char (2 : Int32) [(.int (nar .char (nar .char (x0 &&& (255 : Int32))))), (.int (nar .char (nar .char ((XT.ushr x0 (8 : Int32)) &&& (255 : Int32)))))] (.int (0 : Int32)) := V_352.keep Kq_360 (ninS ne_341_a_259 nin0)
        have O_375 : Old Z n0 T_360.heap := O_353.keep Kq_360 (allS ge_341 all0)
        have A_376 : Exa Z T_360.heap a_341 "com/example/muster/muster/role/RoleRelation" := A_341.keep Kq_360
        have Z_364 : n0 ≤ T_360.heap.size := Nat.le_trans Z_342 Kq_360.1
        have K1_364 := Nat.le_trans K1_342 Kq_360.1
        show own_Go p e below _ T_360 (mkF m 119 #[.val (.int x0), .val (.int x1), .val (.int x2), .val (.int x3), .val (.int x4), .val (.int (1 : Int32)), .val (.ref a_254), .val (.ref a_285), .val (.ref la_328), .unset, .unset, .unset, .unset, .unset] [(.ref a_341)])
        refine own_astore X_360 hx (hb hby at_119) (pc' := 121) (Ls' := #[.val (.int x0), .val (.int x1), .val (.int x2), .val (.int x3), .val (.int x4), .val (.int (1 : Int32)), .val (.ref a_254), .val (.ref a_285), .val (.ref la_328), .val (.ref a_341), .unset, .unset, .unset, .unset]) rfl rfl rfl ?_
        refine own_aload X_360 hx (hb hby at_121) (pc' := 123) rfl rfl rfl ?_
        obtain ⟨cq_377, kq_377, qa_377, qb_377, qc_377⟩ := isOf hZ rfl A_376
        obtain ⟨_, _, ⟨T_377, L_377, k_377, n_377⟩, -, X_377, ⟨Lc_377, hQ_377, l_377, y_377, z_377⟩, st_377⟩ := X_360.virtualBack hx  (y := (⟨"com/example/muster/muster/role/RoleRelation", "getChildId", "()Ljava/lang/String;"⟩ : MethodName)) (z := (⟨"com/example/muster/muster/role/RoleRelation", "getChildId", "()Ljava/lang/String;"⟩ : MethodName)) hown (mvT hZ (hw _ (List.mem_of_getElem? (i := 52) rfl))) (mvT hZ (hw _ (List.mem_of_getElem? (i := 53) rfl))) (notFace_of_selects (args := #[]) (mvT hZ (hw _ (List.mem_of_getElem? (i := 55) rfl)))) (mvT hZ (hw _ (List.mem_of_getElem? (i := 55) rfl))) (mvT hZ (hw _ (List.mem_of_getElem? (i := 54) rfl))) (by decide) (backOf (W := 0) (rm3 l Z a0 hw [] a_341 (.ref a_254) (.ref a_285) (1 : Int32) T_360.heap n0 Z_364 F_361 F_362 F_363 rfl rfl) hZ (hw _ (List.mem_of_getElem? (i := 56) rfl)) (hw _ (List.mem_of_getElem? (i := 35) rfl)) (by decide) (by decide)) qa_377 qc_377 (g := (mkF m 123 #[.val (.int x0), .val (.int x1), .val (.int x2), .val (.int x3), .val (.int x4), .val (.int (1 : Int32)), .val (.ref a_254), .val (.ref a_285), .val (.ref la_328), .val (.ref a_341), .unset, .unset, .unset, .unset] [(.ref a_341)])) rfl (by rw [hml]; rfl) (Steps.refl _) (argsL := []) (rest := []) (lenOf pd0_2 rfl) rfl (by show 2 * 0 + _ ≤ _; exact Nat.le_of_eq rfl) (hb hby at_123) (fun _ _ => ⟨rfl, rfl, (by decide : 9 + 0 ≤ _), (by decide : 68 + 0 ≤ _)⟩)
        dsimp only [Pt.U, Pt.locs, Pt.cells, Pt.slots] at X_377 l_377 y_377 z_377 st_377 hQ_377
        subst l_377 y_377 z_377
        refine own_tr st_377 ?_
        obtain ⟨rfl, Nq_377, eq_377⟩ := hQ_377
        have N_377 := Fr.app N_360 Nq_377
        dsimp only [Option.toList, List.cons_append, List.nil_append]
        rw [if_neg (by decide)]
        show own_Go p e below _ T_377 (mkF m 126 #[.val (.int x0), .val (.int x1), .val (.int x2), .val (.int x3), .val (.int x4), .val (.int (1 : Int32)), .val (.ref a_254), .val (.ref a_285), .val (.ref la_328), .val (.ref a_341), .unset, .unset, .unset, .unset] [(.ref a_254)])
        refine own_astore X_377 hx (hb hby at_126) (pc' := 128) (Ls' := #[.val (.int x0), .val (.int x1), .val (.int x2), .val (.int x3), .val (.int x4), .val (.int (1 : Int32)), .val (.ref a_254), .val (.ref a_285), .val (.ref la_328), .val (.ref a_341), .val (.ref a_254), .unset, .unset, .unset]) rfl rfl rfl ?_
        refine own_aload X_377 hx (hb hby at_128) (pc' := 130) rfl rfl rfl ?_
        obtain ⟨cq_378, kq_378, qa_378, qb_378, qc_378⟩ := isOf hZ eq_377 A_376
        obtain ⟨_, _, ⟨T_378, L_378, k_378, n_378⟩, -, X_378, ⟨Lc_378, hQ_378, l_378, y_378, z_378⟩, st_378⟩ := X_377.virtualBack hx  (y := (⟨"com/example/muster/muster/role/RoleRelation", "getParentId", "()Ljava/lang/String;"⟩ : MethodName)) (z := (⟨"com/example/muster/muster/role/RoleRelation", "getParentId", "()Ljava/lang/String;"⟩ : MethodName)) hown (mvT hZ (hw _ (List.mem_of_getElem? (i := 57) rfl))) (mvT hZ (hw _ (List.mem_of_getElem? (i := 58) rfl))) (notFace_of_selects (args := #[]) (mvT hZ (hw _ (List.mem_of_getElem? (i := 60) rfl)))) (mvT hZ (hw _ (List.mem_of_getElem? (i := 60) rfl))) (mvT hZ (hw _ (List.mem_of_getElem? (i := 59) rfl))) (by decide) (backOf (W := 0) (rm2 l Z a0 hw [] a_341 (.ref a_254) (.ref a_285) (1 : Int32) T_360.heap n0 Z_364 F_361 F_362 F_363 rfl rfl) hZ (hw _ (List.mem_of_getElem? (i := 61) rfl)) (hw _ (List.mem_of_getElem? (i := 35) rfl)) (by decide) (by decide)) qa_378 qc_378 (g := (mkF m 130 #[.val (.int x0), .val (.int x1), .val (.int x2), .val (.int x3), .val (.int x4), .val (.int (1 : Int32)), .val (.ref a_254), .val (.ref a_285), .val (.ref la_328), .val (.ref a_341), .val (.ref a_254), .unset, .unset, .unset] [(.ref a_341)])) rfl (by rw [hml]; rfl) (Steps.refl _) (argsL := []) (rest := []) (lenOf pd0_2 rfl) rfl (by show 2 * 0 + _ ≤ _; exact Nat.le_of_eq rfl) (hb hby at_130) (fun _ _ => ⟨rfl, eq_377, (by decide : 9 + 0 ≤ _), (by decide : 68 + 0 ≤ _)⟩)
        dsimp only [Pt.U, Pt.locs, Pt.cells, Pt.slots] at X_378 l_378 y_378 z_378 st_378 hQ_378
        subst l_378 y_378 z_378
        refine own_tr st_378 ?_
        obtain ⟨rfl, Nq_378, eq_378⟩ := hQ_378
        have N_378 := Fr.app N_377 Nq_378
        dsimp only [Option.toList, List.cons_append, List.nil_append]
        rw [if_neg (by decide)]
        show own_Go p e below _ T_378 (mkF m 133 #[.val (.int x0), .val (.int x1), .val (.int x2), .val (.int x3), .val (.int x4), .val (.int (1 : Int32)), .val (.ref a_254), .val (.ref a_285), .val (.ref la_328), .val (.ref a_341), .val (.ref a_254), .unset, .unset, .unset] [(.ref a_285)])
        refine own_astore X_378 hx (hb hby at_133) (pc' := 135) (Ls' := #[.val (.int x0), .val (.int x1), .val (.int x2), .val (.int x3), .val (.int x4), .val (.int (1 : Int32)), .val (.ref a_254), .val (.ref a_285), .val (.ref la_328), .val (.ref a_341), .val (.ref a_254), .val (.ref a_285), .unset, .unset]) rfl rfl rfl ?_
        refine own_iload X_378 hx (hb hby at_135) (pc' := 137) rfl rfl ?_
        refine own_ifN X_378 hx (hb hby at_137) (by decide) (pc' := 140) rfl ?_
        refine own_aload X_378 hx (hb hby at_140) (pc' := 142) rfl rfl rfl ?_
        refine own_goto X_378 hx (hb hby at_142) (pc' := 147) (by decide) (by decide) ?_
        refine own_astore X_378 hx (hb hby at_147) (pc' := 149) (Ls' := #[.val (.int x0), .val (.int x1), .val (.int x2), .val (.int x3), .val (.int x4), .val (.int (1 : Int32)), .val (.ref a_254), .val (.ref a_285), .val (.ref la_328), .val (.ref a_341), .val (.ref a_254), .val (.ref a_285), .val (.ref a_254), .unset]) rfl rfl rfl ?_
        refine own_iload X_378 hx (hb hby at_149) (pc' := 151) rfl rfl ?_
        refine own_ifN X_378 hx (hb hby at_151) (by decide) (pc' := 154) rfl ?_
        refine own_aload X_378 hx (hb hby at_154) (pc' := 156) rfl rfl rfl ?_
        refine own_goto X_378 hx (hb hby at_156) (pc' := 161) (by decide) (by decide) ?_
        refine own_astore X_378 hx (hb hby at_161) (pc' := 163) (Ls' := #[.val (.int x0), .val (.int x1), .val (.int x2), .val (.int x3), .val (.int x4), .val (.int (1 : Int32)), .val (.ref a_254), .val (.ref a_285), .val (.ref la_328), .val (.ref a_341), .val (.ref a_254), .val (.ref a_285), .val (.ref a_254), .val (.ref a_285)]) rfl rfl rfl ?_
        refine own_aload X_378 hx (hb hby at_163) (pc' := 165) rfl rfl rfl ?_
        refine own_aload X_378 hx (hb hby at_165) (pc' := 167) rfl rfl rfl ?_
        refine own_acmpN X_378 hx rfl rfl (hb hby at_167) (XT.aa_ne_f rfl) (pc' := 170) rfl ?_
        refine own_aload X_378 hx (hb hby at_170) (pc' := 172) rfl rfl rfl ?_
        refine own_aload X_378 hx (hb hby at_172) (pc' := 174) rfl rfl rfl ?_
        refine own_acmpN X_378 hx rfl rfl (hb hby at_174) (XT.aa_ne_f rfl) (pc' := 177) rfl ?_
        refine own_aload X_378 hx (hb hby at_177) (pc' := 179) rfl rfl rfl ?_
        obtain ⟨cq_379, kq_379, qa_379, qb_379, qc_379⟩ := isOf hZ eq_378 A_376
        obtain ⟨_, _, ⟨T_379, L_379, k_379, n_379⟩, -, X_379, ⟨Lc_379, hQ_379, l_379, y_379, z_379⟩, st_379⟩ := X_378.virtualBack hx  (y := (⟨"com/example/muster/muster/role/RoleRelation", "getRoleId", "()Ljava/lang/String;"⟩ : MethodName)) (z := (⟨"com/example/muster/muster/role/RoleRelation", "getRoleId", "()Ljava/lang/String;"⟩ : MethodName)) hown (mvT hZ (hw _ (List.mem_of_getElem? (i := 62) rfl))) (mvT hZ (hw _ (List.mem_of_getElem? (i := 63) rfl))) (notFace_of_selects (args := #[]) (mvT hZ (hw _ (List.mem_of_getElem? (i := 65) rfl)))) (mvT hZ (hw _ (List.mem_of_getElem? (i := 65) rfl))) (mvT hZ (hw _ (List.mem_of_getElem? (i := 64) rfl))) (by decide) (backOf (W := 0) (rm4 l Z a0 hw [] a_341 (.ref a_254) T_360.heap n0 Z_364 F_361 rfl) hZ (hw _ (List.mem_of_getElem? (i := 66) rfl)) (hw _ (List.mem_of_getElem? (i := 35) rfl)) (by decide) (by decide)) qa_379 qc_379 (g := (mkF m 179 #[.val (.int x0), .val (.int x1), .val (.int x2), .val (.int x3), .val (.int x4), .val (.int (1 : Int32)), .val (.ref a_254), .val (.ref a_285), .val (.ref la_328), .val (.ref a_341), .val (.ref a_254), .val (.ref a_285), .val (.ref a_254), .val (.ref a_285)] [(.ref a_341)])) rfl (by rw [hml]; rfl) (Steps.refl _) (argsL := []) (rest := []) (lenOf pd0_2 rfl) rfl (by show 2 * 0 + _ ≤ _; exact Nat.le_of_eq rfl) (hb hby at_179) (fun _ _ => ⟨rfl, eq_378, (by decide : 9 + 0 ≤ _), (by decide : 68 + 0 ≤ _)⟩)
        dsimp only [Pt.U, Pt.locs, Pt.cells, Pt.slots] at X_379 l_379 y_379 z_379 st_379 hQ_379
        subst l_379 y_379 z_379
        refine own_tr st_379 ?_
        obtain ⟨rfl, Nq_379, eq_379⟩ := hQ_379
        have N_379 := Fr.app N_378 Nq_379
        show own_Go p e below _ T_379 (mkF m 182 #[.val (.int x0), .val (.int x1), .val (.int x2), .val (.int x3), .val (.int x4), .val (.int (1 : Int32)), .val (.ref a_254), .val (.ref a_285), .val (.ref la_328), .val (.ref a_341), .val (.ref a_254), .val (.ref a_285), .val (.ref a_254), .val (.ref a_285)] [(.ref a_254)])
        refine own_aload X_379 hx (hb hby at_182) (pc' := 184) rfl rfl rfl ?_
        refine own_acmpN X_379 hx rfl rfl (hb hby at_184) (XT.aa_ne_f rfl) (pc' := 187) rfl ?_
        refine own_aload X_379 hx (hb hby at_187) (pc' := 189) rfl rfl rfl ?_
        obtain ⟨cq_380, kq_380, qa_380, qb_380, qc_380⟩ := isOf hZ eq_379 A_376
        obtain ⟨_, _, ⟨T_380, L_380, k_380, n_380⟩, -, X_380, ⟨Lc_380, hQ_380, l_380, y_380, z_380⟩, st_380⟩ := X_379.virtualBack hx  (y := (⟨"com/example/muster/muster/role/RoleRelation", "getNamedId", "()Ljava/lang/String;"⟩ : MethodName)) (z := (⟨"com/example/muster/muster/role/RoleRelation", "getNamedId", "()Ljava/lang/String;"⟩ : MethodName)) hown (mvT hZ (hw _ (List.mem_of_getElem? (i := 67) rfl))) (mvT hZ (hw _ (List.mem_of_getElem? (i := 68) rfl))) (notFace_of_selects (args := #[]) (mvT hZ (hw _ (List.mem_of_getElem? (i := 70) rfl)))) (mvT hZ (hw _ (List.mem_of_getElem? (i := 70) rfl))) (mvT hZ (hw _ (List.mem_of_getElem? (i := 69) rfl))) (by decide) (backOf (W := 0) (rm5 l Z a0 hw [] a_341 (.ref a_285) T_360.heap n0 Z_364 F_362 rfl) hZ (hw _ (List.mem_of_getElem? (i := 71) rfl)) (hw _ (List.mem_of_getElem? (i := 35) rfl)) (by decide) (by decide)) qa_380 qc_380 (g := (mkF m 189 #[.val (.int x0), .val (.int x1), .val (.int x2), .val (.int x3), .val (.int x4), .val (.int (1 : Int32)), .val (.ref a_254), .val (.ref a_285), .val (.ref la_328), .val (.ref a_341), .val (.ref a_254), .val (.ref a_285), .val (.ref a_254), .val (.ref a_285)] [(.ref a_341)])) rfl (by rw [hml]; rfl) (Steps.refl _) (argsL := []) (rest := []) (lenOf pd0_2 rfl) rfl (by show 2 * 0 + _ ≤ _; exact Nat.le_of_eq rfl) (hb hby at_189) (fun _ _ => ⟨rfl, eq_379, (by decide : 9 + 0 ≤ _), (by decide : 68 + 0 ≤ _)⟩)
        dsimp only [Pt.U, Pt.locs, Pt.cells, Pt.slots] at X_380 l_380 y_380 z_380 st_380 hQ_380
        subst l_380 y_380 z_380
        refine own_tr st_380 ?_
        obtain ⟨rfl, Nq_380, eq_380⟩ := hQ_380
        have N_380 := Fr.app N_379 Nq_380
        show own_Go p e below _ T_380 (mkF m 192 #[.val (.int x0), .val (.int x1), .val (.int x2), .val (.int x3), .val (.int x4), .val (.int (1 : Int32)), .val (.ref a_254), .val (.ref a_285), .val (.ref la_328), .val (.ref a_341), .val (.ref a_254), .val (.ref a_285), .val (.ref a_254), .val (.ref a_285)] [(.ref a_285)])
        refine own_aload X_380 hx (hb hby at_192) (pc' := 194) rfl rfl rfl ?_
        refine own_acmpN X_380 hx rfl rfl (hb hby at_194) (XT.aa_ne_f rfl) (pc' := 197) rfl ?_
        refine own_iconst X_380 hx (1) (hb hby at_197) (pc' := 198) rfl rfl ?_
        refine own_goto X_380 hx (hb hby at_198) (pc' := 202) (by decide) (by decide) ?_
        refine own_retZW X_380 hS (by rw [eq_380]; exact K1_364) hx hlk Bd.returns (by simp) (hb hby at_202) (by decide) (by decide) ?_
        exact ⟨rfl, N_380⟩
      · skip
        refine own_ifN X_280 hx (hb hby at_59) (XT.i0_eq_f c_284) (pc' := 62) rfl ?_
        refine own_null X_280 hx (hb hby at_62) (pc' := 63) rfl ?_
        refine own_goto X_280 hx (hb hby at_63) (pc' := 85) (by decide) (by decide) ?_
        refine own_astore X_280 hx (hb hby at_85) (pc' := 87) (Ls' := #[.val (.int x0), .val (.int x1), .val (.int x2), .val (.int x3), .val (.int x4), .val (.int (1 : Int32)), .val (.ref a_254), .val (.null), .unset, .unset, .unset, .unset, .unset, .unset]) rfl rfl rfl ?_
        refine own_iload X_280 hx (hb hby at_87) (pc' := 89) rfl rfl ?_
        refine own_ifN X_280 hx (hb hby at_89) (by decide) (pc' := 92) rfl ?_
        obtain ⟨la_381, T_381, h_381, kn_381, X_381, e_381, E_381, hS, hkn_381, hZ, hown, st_381⟩ := ldcS X_280 hx hZ hown (hw _ (List.mem_of_getElem? (i := 72) rfl)) own_wS rfl hS K1_281 (g := (mkF m 92 #[.val (.int x0), .val (.int x1), .val (.int x2), .val (.int x3), .val (.int x4), .val (.int (1 : Int32)), .val (.ref a_254), .val (.null), .unset, .unset, .unset, .unset, .unset, .unset] [])) rfl (hb hby at_92) (n := 44) (by decide) (by decide) (by decide) (by decide)
        have A_383 : Exa Z h_381 a_254 "java/lang/String" := A_q280.ext E_381
        have F_384 : Fld Z h_381 a_254 "java/lang/String" "coder" "B" (.int 0) := F_c280.ext E_381
        have F_385 : Fld Z h_381 a_254 "java/lang/String" "value" "[B" (.ref t_280) := F_v280.ext E_381
        have V_386 : Arv Z h_381 t_280 kb_280 .byte (2 : Int32) ((([(nar .char (nar .char (x0 &&& (255 : Int32)))), (nar .char (nar .char ((XT.ushr x0 (8 : Int32)) &&& (255 : Int32))))] : List Int32).map (fun c => c.toInt8.toInt32)).map Value.int) (.int 0) := V_b280.ext E_381
        have V_387 : Arv Z h_381 a_259 kc_259 .char (2 : Int32) [(.int (nar .char (nar .char (x0 &&& (255 : Int32))))), (.int (nar .char (nar .char ((XT.ushr x0 (8 : Int32)) &&& (255 : Int32)))))] (.int (0 : Int32)) := V_282.ext E_381
        have O_388 : Old Z n0 h_381 := O_283.ext E_381
        have Z_382 : n0 ≤ h_381.size := Nat.le_trans Z_281 E_381.1
        refine own_st st_381 ?_
        show own_Go p e below _ T_381 (mkF m 94 #[.val (.int x0), .val (.int x1), .val (.int x2), .val (.int x3), .val (.int x4), .val (.int (1 : Int32)), .val (.ref a_254), .val (.null), .unset, .unset, .unset, .unset, .unset, .unset] [(.ref la_381)])
        refine own_goto X_381 hx (hb hby at_94) (pc' := 99) (by decide) (by decide) ?_
        refine own_astore X_381 hx (hb hby at_99) (pc' := 101) (Ls' := #[.val (.int x0), .val (.int x1), .val (.int x2), .val (.int x3), .val (.int x4), .val (.int (1 : Int32)), .val (.ref a_254), .val (.null), .val (.ref la_381), .unset, .unset, .unset, .unset, .unset]) rfl rfl rfl ?_
        obtain ⟨T_389, h_389, X_389, e_389, E_389, A_389, D_389, -, st_389⟩ := newO X_381 hx hZ hown (hw _ (List.mem_of_getElem? (i := 33) rfl)) (hw _ (List.mem_of_getElem? (i := 34) rfl)) (hw _ (List.mem_of_getElem? (i := 35) rfl)) e_381 (g := (mkF m 101 #[.val (.int x0), .val (.int x1), .val (.int x2), .val (.int x3), .val (.int x4), .val (.int (1 : Int32)), .val (.ref a_254), .val (.null), .val (.ref la_381), .unset, .unset, .unset, .unset, .unset] [])) rfl (hb hby at_101) (by decide) (by decide)
        obtain ⟨a_389, g_389⟩ : ∃ z, z = h_381.size := ⟨_, rfl⟩
        rw [← g_389] at A_389 D_389 st_389
        have ge_389 : n0 ≤ a_389 := Nat.le_trans Z_382 (Nat.le_of_eq g_389.symm)
        have ne_389_a_254 : a_254 ≠ a_389 := Nat.ne_of_lt (Nat.lt_of_lt_of_eq A_383.lt g_389.symm)
        have ne_389_t_280 : t_280 ≠ a_389 := Nat.ne_of_lt (Nat.lt_of_lt_of_eq V_386.lt g_389.symm)
        have ne_389_a_259 : a_259 ≠ a_389 := Nat.ne_of_lt (Nat.lt_of_lt_of_eq V_387.lt g_389.symm)
        have A_391 : Exa Z h_389 a_254 "java/lang/String" := A_383.ext E_389
        have F_392 : Fld Z h_389 a_254 "java/lang/String" "coder" "B" (.int 0) := F_384.ext E_389
        have F_393 : Fld Z h_389 a_254 "java/lang/String" "value" "[B" (.ref t_280) := F_385.ext E_389
        have V_394 : Arv Z h_389 t_280 kb_280 .byte (2 : Int32) ((([(nar .char (nar .char (x0 &&& (255 : Int32)))), (nar .char (nar .char ((XT.ushr x0 (8 : Int32)) &&& (255 : Int32))))] : List Int32).map (fun c => c.toInt8.toInt32)).map Value.int) (.int 0) := V_386.ext E_389
        have V_395 : Arv Z h_389 a_259 kc_259 .char (2 : Int32) [(.int (nar .char (nar .char (x0 &&& (255 : Int32))))), (.int (nar .char (nar .char ((XT.ushr x0 (8 : Int32)) &&& (255 : Int32)))))] (.int (0 : Int32)) := V_387.ext E_389
        have O_396 : Old Z n0 h_389 := O_388.ext E_389
        have Z_390 : n0 ≤ h_389.size := Nat.le_trans Z_382 E_389.1
        have K1_390 := Nat.le_trans hkn_381 E_389.1
        have F_397 : Fld Z h_389 a_389 "com/example/muster/muster/role/RoleRelation" "roleId" "Ljava/lang/String;" (.null) := D_389 (Or.inr (hw _ (List.mem_of_getElem? (i := 41) rfl))) (ty := (.object "java/lang/String")) (by decide)
        have F_398 : Fld Z h_389 a_389 "com/example/muster/muster/role/RoleRelation" "namedId" "Ljava/lang/String;" (.null) := D_389 (Or.inr (hw _ (List.mem_of_getElem? (i := 43) rfl))) (ty := (.object "java/lang/String")) (by decide)
        have F_399 : Fld Z h_389 a_389 "com/example/muster/muster/role/RoleRelation" "namesParent" "Z" (.int (0 : Int32)) := D_389 (Or.inr (hw _ (List.mem_of_getElem? (i := 45) rfl))) (ty := .boolean) (by decide)
        have F_400 : Fld Z h_389 a_389 "com/example/muster/muster/role/RoleRelation" "element" "Ljava/lang/String;" (.null) := D_389 (Or.inr (hw _ (List.mem_of_getElem? (i := 47) rfl))) (ty := (.object "java/lang/String")) (by decide)
        have F_401 : Fld Z h_389 a_389 "com/example/muster/muster/role/RoleRelation" "line" "I" (.int (0 : Int32)) := D_389 (Or.inr (hw _ (List.mem_of_getElem? (i := 49) rfl))) (ty := .int) (by decide)
        have F_402 : Fld Z h_389 a_389 "com/example/muster/muster/role/RoleRelation" "column" "I" (.int (0 : Int32)) := D_389 (Or.inr (hw _ (List.mem_of_getElem? (i := 51) rfl))) (ty := .int) (by decide)
        refine own_st st_389 ?_
        show own_Go p e below _ T_389 (mkF m 104 #[.val (.int x0), .val (.int x1), .val (.int x2), .val (.int x3), .val (.int x4), .val (.int (1 : Int32)), .val (.ref a_254), .val (.null), .val (.ref la_381), .unset, .unset, .unset, .unset, .unset] [(.ref a_389)])
        refine own_dup X_389 hx (hb hby at_104) (pc' := 105) rfl rfl ?_
        refine own_aload X_389 hx (hb hby at_105) (pc' := 107) rfl rfl rfl ?_
        refine own_aload X_389 hx (hb hby at_107) (pc' := 109) rfl rfl rfl ?_
        refine own_iload X_389 hx (hb hby at_109) (pc' := 111) rfl rfl ?_
        refine own_aload X_389 hx (hb hby at_111) (pc' := 113) rfl rfl rfl ?_
        refine own_iloadN X_389 hx (hb hby at_113) (pc' := 114) rfl rfl ?_
        refine own_iload X_389 hx (hb hby at_114) (pc' := 116) rfl rfl ?_
        obtain ⟨_, _, ⟨T_403, L_403, k_403, n_403⟩, -, X_403, ⟨Lc_403, hQ_403, l_403, y_403, z_403⟩, st_403⟩ := X_389.specialBack hx  (y := (⟨"com/example/muster/muster/role/RoleRelation", "<init>", "(Ljava/lang/String;Ljava/lang/String;ZLjava/lang/String;II)V"⟩ : MethodName)) rfl hown (mvT hZ (hw _ (List.mem_of_getElem? (i := 36) rfl))) (mvT hZ (hw _ (List.mem_of_getElem? (i := 37) rfl))) (mvT hZ (hw _ (List.mem_of_getElem? (i := 38) rfl))) (by decide) (backOf (W := 1) (rm1 l Z a0 hw [] a_389 (.ref a_254) (.null) (1 : Int32) la_381 x3 x4 h_389 n0 Z_390 rfl rfl A_389 F_397 F_398 F_399 F_400 F_401 F_402 ge_389 rfl rfl) hZ (hw _ (List.mem_of_getElem? (i := 38) rfl)) (hw _ (List.mem_of_getElem? (i := 35) rfl)) (by decide) (by decide)) (g := (mkF m 116 #[.val (.int x0), .val (.int x1), .val (.int x2), .val (.int x3), .val (.int x4), .val (.int (1 : Int32)), .val (.ref a_254), .val (.null), .val (.ref la_381), .unset, .unset, .unset, .unset, .unset] [(.int x4), (.int x3), (.ref la_381), (.int (1 : Int32)), (.null), (.ref a_254), (.ref a_389), (.ref a_389)])) rfl (by rw [hml]; rfl) (Steps.refl _) (a := a_389) (argsL := [(.ref a_254), (.null), (.int (1 : Int32)), (.ref la_381), (.int x3), (.int x4)]) (rest := [(.ref a_389)]) (lenOf pd0_1 rfl) rfl (by show 2 * 0 + _ ≤ _; exact Nat.le_of_eq rfl) (hb hby at_116) (fun _ _ => ⟨rfl, e_389, (by decide : 6 + 0 ≤ _), (by decide : 62 + 0 ≤ _)⟩)
        dsimp only [Pt.U, Pt.locs, Pt.cells, Pt.slots] at X_403 l_403 y_403 z_403 st_403 hQ_403
        subst l_403 y_403 z_403
        refine own_tr st_403 ?_
        obtain ⟨rfl, Nq_403, Kq_403, q0_403, q1_403, q2_403⟩ := hQ_403
        have N_403 := Fr.app N_280 Nq_403
        have F_404 : Fld Z T_403.heap a_389 "com/example/muster/muster/role/RoleRelation" "roleId" "Ljava/lang/String;" (.ref a_254) := q0_403
        have F_405 : Fld Z T_403.heap a_389 "com/example/muster/muster/role/RoleRelation" "namedId" "Ljava/lang/String;" (.null) := q1_403
        have F_406 : Fld Z T_403.heap a_389 "com/example/muster/muster/role/RoleRelation" "namesParent" "Z" (.int (1 : Int32)) := q2_403
        have A_408 : Exa Z T_403.heap a_254 "java/lang/String" := A_391.keep Kq_403
        have F_409 : Fld Z T_403.heap a_254 "java/lang/String" "coder" "B" (.int 0) := F_392.keep Kq_403 (ninS ne_389_a_254 nin0)
        have F_410 : Fld Z T_403.heap a_254 "java/lang/String" "value" "[B" (.ref t_280) := F_393.keep Kq_403 (ninS ne_389_a_254 nin0)
        have V_411 : Arv Z T_403.heap t_280 kb_280 .byte (2 : Int32) ((([(nar .char (nar .char (x0 &&& (255 : Int32)))), (nar .char (nar .char ((XT.ushr x0 (8 : Int32)) &&& (255 : Int32))))] : List Int32).map (fun c => c.toInt8.toInt32)).map Value.int) (.int 0) := V_394.keep Kq_403 (ninS ne_389_t_280 nin0)
        have V_412 : Arv Z T_403.heap a_259 kc_259 .char (2 : Int32) [(.int (nar .char (nar .char (x0 &&& (255 : Int32))))), (.int (nar .char (nar .char ((XT.ushr x0 (8 : Int32)) &&& (255 : Int32)))))] (.int (0 : Int32)) := V_395.keep Kq_403 (ninS ne_389_a_259 nin0)
        have O_413 : Old Z n0 T_403.heap := O_396.keep Kq_403 (allS ge_389 all0)
        have A_414 : Exa Z T_403.heap a_389 "com/example/muster/muster/role/RoleRelation" := A_389.keep Kq_403
        have Z_407 : n0 ≤ T_403.heap.size := Nat.le_trans Z_390 Kq_403.1
        have K1_407 := Nat.le_trans K1_390 Kq_403.1
        show own_Go p e below _ T_403 (mkF m 119 #[.val (.int x0), .val (.int x1), .val (.int x2), .val (.int x3), .val (.int x4), .val (.int (1 : Int32)), .val (.ref a_254), .val (.null), .val (.ref la_381), .unset, .unset, .unset, .unset, .unset] [(.ref a_389)])
        refine own_astore X_403 hx (hb hby at_119) (pc' := 121) (Ls' := #[.val (.int x0), .val (.int x1), .val (.int x2), .val (.int x3), .val (.int x4), .val (.int (1 : Int32)), .val (.ref a_254), .val (.null), .val (.ref la_381), .val (.ref a_389), .unset, .unset, .unset, .unset]) rfl rfl rfl ?_
        refine own_aload X_403 hx (hb hby at_121) (pc' := 123) rfl rfl rfl ?_
        obtain ⟨cq_415, kq_415, qa_415, qb_415, qc_415⟩ := isOf hZ rfl A_414
        obtain ⟨_, _, ⟨T_415, L_415, k_415, n_415⟩, -, X_415, ⟨Lc_415, hQ_415, l_415, y_415, z_415⟩, st_415⟩ := X_403.virtualBack hx  (y := (⟨"com/example/muster/muster/role/RoleRelation", "getChildId", "()Ljava/lang/String;"⟩ : MethodName)) (z := (⟨"com/example/muster/muster/role/RoleRelation", "getChildId", "()Ljava/lang/String;"⟩ : MethodName)) hown (mvT hZ (hw _ (List.mem_of_getElem? (i := 52) rfl))) (mvT hZ (hw _ (List.mem_of_getElem? (i := 53) rfl))) (notFace_of_selects (args := #[]) (mvT hZ (hw _ (List.mem_of_getElem? (i := 55) rfl)))) (mvT hZ (hw _ (List.mem_of_getElem? (i := 55) rfl))) (mvT hZ (hw _ (List.mem_of_getElem? (i := 54) rfl))) (by decide) (backOf (W := 0) (rm3 l Z a0 hw [] a_389 (.ref a_254) (.null) (1 : Int32) T_403.heap n0 Z_407 F_404 F_405 F_406 rfl rfl) hZ (hw _ (List.mem_of_getElem? (i := 56) rfl)) (hw _ (List.mem_of_getElem? (i := 35) rfl)) (by decide) (by decide)) qa_415 qc_415 (g := (mkF m 123 #[.val (.int x0), .val (.int x1), .val (.int x2), .val (.int x3), .val (.int x4), .val (.int (1 : Int32)), .val (.ref a_254), .val (.null), .val (.ref la_381), .val (.ref a_389), .unset, .unset, .unset, .unset] [(.ref a_389)])) rfl (by rw [hml]; rfl) (Steps.refl _) (argsL := []) (rest := []) (lenOf pd0_2 rfl) rfl (by show 2 * 0 + _ ≤ _; exact Nat.le_of_eq rfl) (hb hby at_123) (fun _ _ => ⟨rfl, rfl, (by decide : 6 + 0 ≤ _), (by decide : 62 + 0 ≤ _)⟩)
        dsimp only [Pt.U, Pt.locs, Pt.cells, Pt.slots] at X_415 l_415 y_415 z_415 st_415 hQ_415
        subst l_415 y_415 z_415
        refine own_tr st_415 ?_
        obtain ⟨rfl, Nq_415, eq_415⟩ := hQ_415
        have N_415 := Fr.app N_403 Nq_415
        dsimp only [Option.toList, List.cons_append, List.nil_append]
        rw [if_neg (by decide)]
        show own_Go p e below _ T_415 (mkF m 126 #[.val (.int x0), .val (.int x1), .val (.int x2), .val (.int x3), .val (.int x4), .val (.int (1 : Int32)), .val (.ref a_254), .val (.null), .val (.ref la_381), .val (.ref a_389), .unset, .unset, .unset, .unset] [(.ref a_254)])
        refine own_astore X_415 hx (hb hby at_126) (pc' := 128) (Ls' := #[.val (.int x0), .val (.int x1), .val (.int x2), .val (.int x3), .val (.int x4), .val (.int (1 : Int32)), .val (.ref a_254), .val (.null), .val (.ref la_381), .val (.ref a_389), .val (.ref a_254), .unset, .unset, .unset]) rfl rfl rfl ?_
        refine own_aload X_415 hx (hb hby at_128) (pc' := 130) rfl rfl rfl ?_
        obtain ⟨cq_416, kq_416, qa_416, qb_416, qc_416⟩ := isOf hZ eq_415 A_414
        obtain ⟨_, _, ⟨T_416, L_416, k_416, n_416⟩, -, X_416, ⟨Lc_416, hQ_416, l_416, y_416, z_416⟩, st_416⟩ := X_415.virtualBack hx  (y := (⟨"com/example/muster/muster/role/RoleRelation", "getParentId", "()Ljava/lang/String;"⟩ : MethodName)) (z := (⟨"com/example/muster/muster/role/RoleRelation", "getParentId", "()Ljava/lang/String;"⟩ : MethodName)) hown (mvT hZ (hw _ (List.mem_of_getElem? (i := 57) rfl))) (mvT hZ (hw _ (List.mem_of_getElem? (i := 58) rfl))) (notFace_of_selects (args := #[]) (mvT hZ (hw _ (List.mem_of_getElem? (i := 60) rfl)))) (mvT hZ (hw _ (List.mem_of_getElem? (i := 60) rfl))) (mvT hZ (hw _ (List.mem_of_getElem? (i := 59) rfl))) (by decide) (backOf (W := 0) (rm2 l Z a0 hw [] a_389 (.ref a_254) (.null) (1 : Int32) T_403.heap n0 Z_407 F_404 F_405 F_406 rfl rfl) hZ (hw _ (List.mem_of_getElem? (i := 61) rfl)) (hw _ (List.mem_of_getElem? (i := 35) rfl)) (by decide) (by decide)) qa_416 qc_416 (g := (mkF m 130 #[.val (.int x0), .val (.int x1), .val (.int x2), .val (.int x3), .val (.int x4), .val (.int (1 : Int32)), .val (.ref a_254), .val (.null), .val (.ref la_381), .val (.ref a_389), .val (.ref a_254), .unset, .unset, .unset] [(.ref a_389)])) rfl (by rw [hml]; rfl) (Steps.refl _) (argsL := []) (rest := []) (lenOf pd0_2 rfl) rfl (by show 2 * 0 + _ ≤ _; exact Nat.le_of_eq rfl) (hb hby at_130) (fun _ _ => ⟨rfl, eq_415, (by decide : 6 + 0 ≤ _), (by decide : 62 + 0 ≤ _)⟩)
        dsimp only [Pt.U, Pt.locs, Pt.cells, Pt.slots] at X_416 l_416 y_416 z_416 st_416 hQ_416
        subst l_416 y_416 z_416
        refine own_tr st_416 ?_
        obtain ⟨rfl, Nq_416, eq_416⟩ := hQ_416
        have N_416 := Fr.app N_415 Nq_416
        dsimp only [Option.toList, List.cons_append, List.nil_append]
        rw [if_neg (by decide)]
        show own_Go p e below _ T_416 (mkF m 133 #[.val (.int x0), .val (.int x1), .val (.int x2), .val (.int x3), .val (.int x4), .val (.int (1 : Int32)), .val (.ref a_254), .val (.null), .val (.ref la_381), .val (.ref a_389), .val (.ref a_254), .unset, .unset, .unset] [(.null)])
        refine own_astore X_416 hx (hb hby at_133) (pc' := 135) (Ls' := #[.val (.int x0), .val (.int x1), .val (.int x2), .val (.int x3), .val (.int x4), .val (.int (1 : Int32)), .val (.ref a_254), .val (.null), .val (.ref la_381), .val (.ref a_389), .val (.ref a_254), .val (.null), .unset, .unset]) rfl rfl rfl ?_
        refine own_iload X_416 hx (hb hby at_135) (pc' := 137) rfl rfl ?_
        refine own_ifN X_416 hx (hb hby at_137) (by decide) (pc' := 140) rfl ?_
        refine own_aload X_416 hx (hb hby at_140) (pc' := 142) rfl rfl rfl ?_
        refine own_goto X_416 hx (hb hby at_142) (pc' := 147) (by decide) (by decide) ?_
        refine own_astore X_416 hx (hb hby at_147) (pc' := 149) (Ls' := #[.val (.int x0), .val (.int x1), .val (.int x2), .val (.int x3), .val (.int x4), .val (.int (1 : Int32)), .val (.ref a_254), .val (.null), .val (.ref la_381), .val (.ref a_389), .val (.ref a_254), .val (.null), .val (.ref a_254), .unset]) rfl rfl rfl ?_
        refine own_iload X_416 hx (hb hby at_149) (pc' := 151) rfl rfl ?_
        refine own_ifN X_416 hx (hb hby at_151) (by decide) (pc' := 154) rfl ?_
        refine own_aload X_416 hx (hb hby at_154) (pc' := 156) rfl rfl rfl ?_
        refine own_goto X_416 hx (hb hby at_156) (pc' := 161) (by decide) (by decide) ?_
        refine own_astore X_416 hx (hb hby at_161) (pc' := 163) (Ls' := #[.val (.int x0), .val (.int x1), .val (.int x2), .val (.int x3), .val (.int x4), .val (.int (1 : Int32)), .val (.ref a_254), .val (.null), .val (.ref la_381), .val (.ref a_389), .val (.ref a_254), .val (.null), .val (.ref a_254), .val (.null)]) rfl rfl rfl ?_
        refine own_aload X_416 hx (hb hby at_163) (pc' := 165) rfl rfl rfl ?_
        refine own_aload X_416 hx (hb hby at_165) (pc' := 167) rfl rfl rfl ?_
        refine own_acmpN X_416 hx rfl rfl (hb hby at_167) (XT.aa_ne_f rfl) (pc' := 170) rfl ?_
        refine own_aload X_416 hx (hb hby at_170) (pc' := 172) rfl rfl rfl ?_
        refine own_aload X_416 hx (hb hby at_172) (pc' := 174) rfl rfl rfl ?_
        refine own_acmpN X_416 hx rfl rfl (hb hby at_174) (XT.aa_ne_f rfl) (pc' := 177) rfl ?_
        refine own_aload X_416 hx (hb hby at_177) (pc' := 179) rfl rfl rfl ?_
        obtain ⟨cq_417, kq_417, qa_417, qb_417, qc_417⟩ := isOf hZ eq_416 A_414
        obtain ⟨_, _, ⟨T_417, L_417, k_417, n_417⟩, -, X_417, ⟨Lc_417, hQ_417, l_417, y_417, z_417⟩, st_417⟩ := X_416.virtualBack hx  (y := (⟨"com/example/muster/muster/role/RoleRelation", "getRoleId", "()Ljava/lang/String;"⟩ : MethodName)) (z := (⟨"com/example/muster/muster/role/RoleRelation", "getRoleId", "()Ljava/lang/String;"⟩ : MethodName)) hown (mvT hZ (hw _ (List.mem_of_getElem? (i := 62) rfl))) (mvT hZ (hw _ (List.mem_of_getElem? (i := 63) rfl))) (notFace_of_selects (args := #[]) (mvT hZ (hw _ (List.mem_of_getElem? (i := 65) rfl)))) (mvT hZ (hw _ (List.mem_of_getElem? (i := 65) rfl))) (mvT hZ (hw _ (List.mem_of_getElem? (i := 64) rfl))) (by decide) (backOf (W := 0) (rm4 l Z a0 hw [] a_389 (.ref a_254) T_403.heap n0 Z_407 F_404 rfl) hZ (hw _ (List.mem_of_getElem? (i := 66) rfl)) (hw _ (List.mem_of_getElem? (i := 35) rfl)) (by decide) (by decide)) qa_417 qc_417 (g := (mkF m 179 #[.val (.int x0), .val (.int x1), .val (.int x2), .val (.int x3), .val (.int x4), .val (.int (1 : Int32)), .val (.ref a_254), .val (.null), .val (.ref la_381), .val (.ref a_389), .val (.ref a_254), .val (.null), .val (.ref a_254), .val (.null)] [(.ref a_389)])) rfl (by rw [hml]; rfl) (Steps.refl _) (argsL := []) (rest := []) (lenOf pd0_2 rfl) rfl (by show 2 * 0 + _ ≤ _; exact Nat.le_of_eq rfl) (hb hby at_179) (fun _ _ => ⟨rfl, eq_416, (by decide : 6 + 0 ≤ _), (by decide : 62 + 0 ≤ _)⟩)
        dsimp only [Pt.U, Pt.locs, Pt.cells, Pt.slots] at X_417 l_417 y_417 z_417 st_417 hQ_417
        subst l_417 y_417 z_417
        refine own_tr st_417 ?_
        obtain ⟨rfl, Nq_417, eq_417⟩ := hQ_417
        have N_417 := Fr.app N_416 Nq_417
        show own_Go p e below _ T_417 (mkF m 182 #[.val (.int x0), .val (.int x1), .val (.int x2), .val (.int x3), .val (.int x4), .val (.int (1 : Int32)), .val (.ref a_254), .val (.null), .val (.ref la_381), .val (.ref a_389), .val (.ref a_254), .val (.null), .val (.ref a_254), .val (.null)] [(.ref a_254)])
        refine own_aload X_417 hx (hb hby at_182) (pc' := 184) rfl rfl rfl ?_
        refine own_acmpN X_417 hx rfl rfl (hb hby at_184) (XT.aa_ne_f rfl) (pc' := 187) rfl ?_
        refine own_aload X_417 hx (hb hby at_187) (pc' := 189) rfl rfl rfl ?_
        obtain ⟨cq_418, kq_418, qa_418, qb_418, qc_418⟩ := isOf hZ eq_417 A_414
        obtain ⟨_, _, ⟨T_418, L_418, k_418, n_418⟩, -, X_418, ⟨Lc_418, hQ_418, l_418, y_418, z_418⟩, st_418⟩ := X_417.virtualBack hx  (y := (⟨"com/example/muster/muster/role/RoleRelation", "getNamedId", "()Ljava/lang/String;"⟩ : MethodName)) (z := (⟨"com/example/muster/muster/role/RoleRelation", "getNamedId", "()Ljava/lang/String;"⟩ : MethodName)) hown (mvT hZ (hw _ (List.mem_of_getElem? (i := 67) rfl))) (mvT hZ (hw _ (List.mem_of_getElem? (i := 68) rfl))) (notFace_of_selects (args := #[]) (mvT hZ (hw _ (List.mem_of_getElem? (i := 70) rfl)))) (mvT hZ (hw _ (List.mem_of_getElem? (i := 70) rfl))) (mvT hZ (hw _ (List.mem_of_getElem? (i := 69) rfl))) (by decide) (backOf (W := 0) (rm5 l Z a0 hw [] a_389 (.null) T_403.heap n0 Z_407 F_405 rfl) hZ (hw _ (List.mem_of_getElem? (i := 71) rfl)) (hw _ (List.mem_of_getElem? (i := 35) rfl)) (by decide) (by decide)) qa_418 qc_418 (g := (mkF m 189 #[.val (.int x0), .val (.int x1), .val (.int x2), .val (.int x3), .val (.int x4), .val (.int (1 : Int32)), .val (.ref a_254), .val (.null), .val (.ref la_381), .val (.ref a_389), .val (.ref a_254), .val (.null), .val (.ref a_254), .val (.null)] [(.ref a_389)])) rfl (by rw [hml]; rfl) (Steps.refl _) (argsL := []) (rest := []) (lenOf pd0_2 rfl) rfl (by show 2 * 0 + _ ≤ _; exact Nat.le_of_eq rfl) (hb hby at_189) (fun _ _ => ⟨rfl, eq_417, (by decide : 6 + 0 ≤ _), (by decide : 62 + 0 ≤ _)⟩)
        dsimp only [Pt.U, Pt.locs, Pt.cells, Pt.slots] at X_418 l_418 y_418 z_418 st_418 hQ_418
        subst l_418 y_418 z_418
        refine own_tr st_418 ?_
        obtain ⟨rfl, Nq_418, eq_418⟩ := hQ_418
        have N_418 := Fr.app N_417 Nq_418
        show own_Go p e below _ T_418 (mkF m 192 #[.val (.int x0), .val (.int x1), .val (.int x2), .val (.int x3), .val (.int x4), .val (.int (1 : Int32)), .val (.ref a_254), .val (.null), .val (.ref la_381), .val (.ref a_389), .val (.ref a_254), .val (.null), .val (.ref a_254), .val (.null)] [(.null)])
        refine own_aload X_418 hx (hb hby at_192) (pc' := 194) rfl rfl rfl ?_
        refine own_acmpN X_418 hx rfl rfl (hb hby at_194) (XT.aa_ne_f rfl) (pc' := 197) rfl ?_
        refine own_iconst X_418 hx (1) (hb hby at_197) (pc' := 198) rfl rfl ?_
        refine own_goto X_418 hx (hb hby at_198) (pc' := 202) (by decide) (by decide) ?_
        refine own_retZW X_418 hS (by rw [eq_418]; exact K1_407) hx hlk Bd.returns (by simp) (hb hby at_202) (by decide) (by decide) ?_
        exact ⟨rfl, N_418⟩
    · skip
      refine own_ifN X0 hx (hb hby at_16) (XT.i0_eq_f c_253) (pc' := 19) rfl ?_
      refine own_null X0 hx (hb hby at_19) (pc' := 20) rfl ?_
      refine own_goto X0 hx (hb hby at_20) (pc' := 54) (by decide) (by decide) ?_
      refine own_astore X0 hx (hb hby at_54) (pc' := 56) (Ls' := #[.val (.int x0), .val (.int x1), .val (.int x2), .val (.int x3), .val (.int x4), .val (.int (1 : Int32)), .val (.null), .unset, .unset, .unset, .unset, .unset, .unset, .unset]) rfl rfl rfl ?_
      refine own_iloadN X0 hx (hb hby at_56) (pc' := 57) rfl rfl ?_
      refine own_iconst X0 hx (4) (hb hby at_57) (pc' := 58) rfl rfl ?_
      refine own_iand X0 hx (hb hby at_58) (pc' := 59) rfl ?_
      by_cases c_419 : (x2 &&& (4 : Int32)) = (0 : Int32)
      · skip
        refine own_ifY X0 hx (hb hby at_59) (XT.i0_eq_t c_419) (pc' := 66) (by decide) (by decide) ?_
        obtain ⟨T_420, h_420, X_420, e_420, E_420, A_420, D_420, -, st_420⟩ := newO X0 hx hZ hown (hw _ (List.mem_of_getElem? (i := 0) rfl)) (hw _ (List.mem_of_getElem? (i := 1) rfl)) (hw _ (List.mem_of_getElem? (i := 2) rfl)) e0 (g := (mkF m 66 #[.val (.int x0), .val (.int x1), .val (.int x2), .val (.int x3), .val (.int x4), .val (.int (1 : Int32)), .val (.null), .unset, .unset, .unset, .unset, .unset, .unset, .unset] [])) rfl (hb hby at_66) (by decide) (by decide)
        obtain ⟨a_420, g_420⟩ : ∃ z, z = h0.size := ⟨_, rfl⟩
        rw [← g_420] at A_420 D_420 st_420
        have ge_420 : n0 ≤ a_420 := Nat.le_trans Z0 (Nat.le_of_eq g_420.symm)
        have O_422 : Old Z n0 h_420 := O_a.ext E_420
        have Z_421 : n0 ≤ h_420.size := Nat.le_trans Z0 E_420.1
        have K1_421 := Nat.le_trans (Nat.le_refl _) E_420.1
        have F_423 : Fld Z h_420 a_420 "java/lang/String" "coder" "B" (.int (0 : Int32)) := D_420 (Or.inr (hw _ (List.mem_of_getElem? (i := 27) rfl))) (ty := .byte) (by decide)
        have F_424 : Fld Z h_420 a_420 "java/lang/String" "value" "[B" (.null) := D_420 (Or.inr (hw _ (List.mem_of_getElem? (i := 29) rfl))) (ty := (.array .byte)) (by decide)
        refine own_st st_420 ?_
        show own_Go p e below _ T_420 (mkF m 69 #[.val (.int x0), .val (.int x1), .val (.int x2), .val (.int x3), .val (.int x4), .val (.int (1 : Int32)), .val (.null), .unset, .unset, .unset, .unset, .unset, .unset, .unset] [(.ref a_420)])
        refine own_dup X_420 hx (hb hby at_69) (pc' := 70) rfl rfl ?_
        refine own_iconst X_420 hx (1) (hb hby at_70) (pc' := 71) rfl rfl ?_
        obtain ⟨T_425, h_425, kc_425, X_425, e_425, E_425, A_425, st_425⟩ := newP X_420 hx hZ (hw _ (List.mem_of_getElem? (i := 3) rfl)) e_420 (g := (mkF m 71 #[.val (.int x0), .val (.int x1), .val (.int x2), .val (.int x3), .val (.int x4), .val (.int (1 : Int32)), .val (.null), .unset, .unset, .unset, .unset, .unset, .unset, .unset] [(.int (1 : Int32)), (.ref a_420), (.ref a_420)])) rfl (hb hby at_71) rfl (by decide) (cap := 1) (by decide) (by decide) (by decide) (by decide)
        obtain ⟨a_425, g_425⟩ : ∃ z, z = h_420.size := ⟨_, rfl⟩
        rw [← g_425] at A_425 st_425
        have ge_425 : n0 ≤ a_425 := Nat.le_trans Z_421 (Nat.le_of_eq g_425.symm)
        have ne_425_a_420 : a_420 ≠ a_425 := Nat.ne_of_lt (Nat.lt_of_lt_of_eq A_420.lt g_425.symm)
        have O_427 : Old Z n0 h_425 := O_422.ext E_425
        have A_428 : Exa Z h_425 a_420 "java/lang/String" := A_420.ext E_425
        have F_429 : Fld Z h_425 a_420 "java/lang/String" "coder" "B" (.int (0 : Int32)) := F_423.ext E_425
        have F_430 : Fld Z h_425 a_420 "java/lang/String" "value" "[B" (.null) := F_424.ext E_425
        have Z_426 : n0 ≤ h_425.size := Nat.le_trans Z_421 E_425.1
        have K1_426 := Nat.le_trans K1_421 E_425.1
        have V_431 : Arv Z h_425 a_425 kc_425 .char (1 : Int32) [(.int (0 : Int32))] (.int (0 : Int32)) := (Arv.new A_425 (by decide)).pad (pad_rep [] (.int (0 : Int32)) 1)
        refine own_st st_425 ?_
        show own_Go p e below _ T_425 (mkF m 73 #[.val (.int x0), .val (.int x1), .val (.int x2), .val (.int x3), .val (.int x4), .val (.int (1 : Int32)), .val (.null), .unset, .unset, .unset, .unset, .unset, .unset, .unset] [(.ref a_425), (.ref a_420), (.ref a_420)])
        refine own_dup X_425 hx (hb hby at_73) (pc' := 74) rfl rfl ?_
        refine own_iconst X_425 hx (0) (hb hby at_74) (pc' := 75) rfl rfl ?_
        refine own_iloadN X_425 hx (hb hby at_75) (pc' := 76) rfl rfl ?_
        refine own_sipush X_425 hx (255) (hb hby at_76) (pc' := 79) rfl (by decide) ?_
        refine own_iand X_425 hx (hb hby at_79) (pc' := 80) rfl ?_
        refine own_i2c X_425 hx (hb hby at_80) (pc' := 81) rfl ?_
        obtain ⟨T_432, h_432, X_432, e_432, W_432, V_432, st_432⟩ := own_castore X_425 hx hZ e_425 V_431 0 (x := (nar .char (x1 &&& (255 : Int32)))) (j := (0 : Int32)) (Ls := #[.val (.int x0), .val (.int x1), .val (.int x2), .val (.int x3), .val (.int x4), .val (.int (1 : Int32)), .val (.null), .unset, .unset, .unset, .unset, .unset, .unset, .unset]) (st := [(.ref a_425), (.ref a_420), (.ref a_420)]) ⟨by decide, by decide⟩ rfl (Nat.le_of_ble_eq_true rfl) (hb hby at_81)
        have V_433 : Arv Z h_432 a_425 kc_425 .char (1 : Int32) [(.int (nar .char (nar .char (x1 &&& (255 : Int32)))))] (.int (0 : Int32)) := V_432
        have O_435 : Old Z n0 h_432 := O_427.wr W_432 ge_425
        have A_436 : Exa Z h_432 a_420 "java/lang/String" := A_428.wr W_432
        have F_437 : Fld Z h_432 a_420 "java/lang/String" "coder" "B" (.int (0 : Int32)) := F_429.other W_432 (Or.inl ne_425_a_420)
        have F_438 : Fld Z h_432 a_420 "java/lang/String" "value" "[B" (.null) := F_430.other W_432 (Or.inl ne_425_a_420)
        have Z_434 : n0 ≤ h_432.size := by rw [W_432.size]; exact Z_426
        have K1_434 := Nat.le_trans K1_426 (Nat.le_of_eq W_432.size.symm)
        have N_432 := Fr.snoc X_432 N0 ge_425
        refine own_st st_432 ?_
        show own_Go p e below _ T_432 (mkF m 82 #[.val (.int x0), .val (.int x1), .val (.int x2), .val (.int x3), .val (.int x4), .val (.int (1 : Int32)), .val (.null), .unset, .unset, .unset, .unset, .unset, .unset, .unset] [(.ref a_425), (.ref a_420), (.ref a_420)])
        have hws_439 : ∀ d ∈ StrChars.Road.words, d.before a0 Z = true := fun d hd => hw d ((by decide +kernel : ∀ d ∈ StrChars.Road.words, d ∈ tables_1) d hd)
        have hp_439 : ∀ c ∈ ([(nar .char (nar .char (x1 &&& (255 : Int32))))] : List Int32), ¬ c < 0 ∧ ¬ (255 : Int32) < c := by
          intro c hc
          simp only [List.mem_cons, List.not_mem_nil, or_false] at hc
          rcases hc with rfl <;> exact own_ch255 _
        obtain ⟨_, _, ⟨T_439, L_439, k_439, n_439⟩, -, X_439, ⟨Lc_439, hQ_439, l_439, y_439, z_439⟩, st_439⟩ := X_432.specialBack hx (y := (⟨"java/lang/String", "<init>", "([C)V"⟩ : MethodName)) rfl hown (mvT hZ (hw _ (List.mem_of_getElem? (i := 4) rfl))) (mvT hZ (hw _ (List.mem_of_getElem? (i := 5) rfl))) (mvT hZ (hw _ (List.mem_of_getElem? (i := 6) rfl))) (by decide) (StrChars.Road.backV (W := 1) hZ hws_439 (kI := 4) (hw _ (List.mem_of_getElem? (i := 1) rfl)) (cs := ([(nar .char (nar .char (x1 &&& (255 : Int32))))] : List Int32)) (bs := ([(nar .char (nar .char (x1 &&& (255 : Int32))))] : List Int32).map (fun c => c.toInt8.toInt32)) (n := 1) ge_420 Z_434 A_436 F_438 F_437 V_433 (Sz.ext O_435.2) Pz rfl rfl (by decide) (by decide) hp_439 rfl (by decide) (by decide)) (g := (mkF m 82 #[.val (.int x0), .val (.int x1), .val (.int x2), .val (.int x3), .val (.int x4), .val (.int (1 : Int32)), .val (.null), .unset, .unset, .unset, .unset, .unset, .unset, .unset] [(.ref a_425), (.ref a_420), (.ref a_420)])) rfl (by rw [hml]; rfl) (Steps.refl _) (a := a_420) (argsL := [(.ref a_425)]) (rest := [(.ref a_420)]) (lenOf pd0_0 rfl) rfl (by show 2 * 0 + _ ≤ _; exact Nat.le_of_eq rfl) (hb hby at_82) (fun _ _ => ⟨rfl, e_432, (by decide : 2 + 1 ≤ _), (by decide : 5 + 1 ≤ _)⟩)
        dsimp only [Pt.U, Pt.locs, Pt.cells, Pt.slots] at X_439 l_439 y_439 z_439 st_439 hQ_439
        subst l_439 y_439 z_439
        refine own_tr st_439 ?_
        obtain ⟨rfl, Nq_439, Kq_439, A_q439, F_c439, t_439, kb_439, gt_439, ht_439, nt_439, F_v439, V_b439⟩ := hQ_439
        have N_439 := Fr.app N_432 Nq_439
        have ne_439_a_425 : a_425 ≠ t_439 := Nat.ne_of_lt (Nat.lt_of_lt_of_le V_433.lt ht_439)
        have ne_439_a_420 : a_420 ≠ t_439 := Nat.ne_of_lt (Nat.lt_of_lt_of_le A_436.lt ht_439)
        have V_441 : Arv Z T_439.heap a_425 kc_425 .char (1 : Int32) [(.int (nar .char (nar .char (x1 &&& (255 : Int32)))))] (.int (0 : Int32)) := V_433.keep Kq_439 (ninS (Ne.symm ne_425_a_420) nin0)
        have O_442 : Old Z n0 T_439.heap := O_435.keep Kq_439 (allS ge_420 all0)
        have Z_440 : n0 ≤ T_439.heap.size := Nat.le_trans Z_434 Kq_439.1
        have K1_440 := Nat.le_trans K1_434 Kq_439.1
        show own_Go p e below _ T_439 (mkF m 85 #[.val (.int x0), .val (.int x1), .val (.int x2), .val (.int x3), .val (.int x4), .val (.int (1 : Int32)), .val (.null), .unset, .unset, .unset, .unset, .unset, .unset, .unset] [(.ref a_420)])
        refine own_astore X_439 hx (hb hby at_85) (pc' := 87) (Ls' := #[.val (.int x0), .val (.int x1), .val (.int x2), .val (.int x3), .val (.int x4), .val (.int (1 : Int32)), .val (.null), .val (.ref a_420), .unset, .unset, .unset, .unset, .unset, .unset]) rfl rfl rfl ?_
        refine own_iload X_439 hx (hb hby at_87) (pc' := 89) rfl rfl ?_
        refine own_ifN X_439 hx (hb hby at_89) (by decide) (pc' := 92) rfl ?_
        obtain ⟨la_443, T_443, h_443, kn_443, X_443, e_443, E_443, hS, hkn_443, hZ, hown, st_443⟩ := ldcS X_439 hx hZ hown (hw _ (List.mem_of_getElem? (i := 72) rfl)) own_wS rfl hS K1_440 (g := (mkF m 92 #[.val (.int x0), .val (.int x1), .val (.int x2), .val (.int x3), .val (.int x4), .val (.int (1 : Int32)), .val (.null), .val (.ref a_420), .unset, .unset, .unset, .unset, .unset, .unset] [])) rfl (hb hby at_92) (n := 44) (by decide) (by decide) (by decide) (by decide)
        have A_445 : Exa Z h_443 a_420 "java/lang/String" := A_q439.ext E_443
        have F_446 : Fld Z h_443 a_420 "java/lang/String" "coder" "B" (.int 0) := F_c439.ext E_443
        have F_447 : Fld Z h_443 a_420 "java/lang/String" "value" "[B" (.ref t_439) := F_v439.ext E_443
        have V_448 : Arv Z h_443 t_439 kb_439 .byte (1 : Int32) ((([(nar .char (nar .char (x1 &&& (255 : Int32))))] : List Int32).map (fun c => c.toInt8.toInt32)).map Value.int) (.int 0) := V_b439.ext E_443
        have V_449 : Arv Z h_443 a_425 kc_425 .char (1 : Int32) [(.int (nar .char (nar .char (x1 &&& (255 : Int32)))))] (.int (0 : Int32)) := V_441.ext E_443
        have O_450 : Old Z n0 h_443 := O_442.ext E_443
        have Z_444 : n0 ≤ h_443.size := Nat.le_trans Z_440 E_443.1
        refine own_st st_443 ?_
        show own_Go p e below _ T_443 (mkF m 94 #[.val (.int x0), .val (.int x1), .val (.int x2), .val (.int x3), .val (.int x4), .val (.int (1 : Int32)), .val (.null), .val (.ref a_420), .unset, .unset, .unset, .unset, .unset, .unset] [(.ref la_443)])
        refine own_goto X_443 hx (hb hby at_94) (pc' := 99) (by decide) (by decide) ?_
        refine own_astore X_443 hx (hb hby at_99) (pc' := 101) (Ls' := #[.val (.int x0), .val (.int x1), .val (.int x2), .val (.int x3), .val (.int x4), .val (.int (1 : Int32)), .val (.null), .val (.ref a_420), .val (.ref la_443), .unset, .unset, .unset, .unset, .unset]) rfl rfl rfl ?_
        obtain ⟨T_451, h_451, X_451, e_451, E_451, A_451, D_451, -, st_451⟩ := newO X_443 hx hZ hown (hw _ (List.mem_of_getElem? (i := 33) rfl)) (hw _ (List.mem_of_getElem? (i := 34) rfl)) (hw _ (List.mem_of_getElem? (i := 35) rfl)) e_443 (g := (mkF m 101 #[.val (.int x0), .val (.int x1), .val (.int x2), .val (.int x3), .val (.int x4), .val (.int (1 : Int32)), .val (.null), .val (.ref a_420), .val (.ref la_443), .unset, .unset, .unset, .unset, .unset] [])) rfl (hb hby at_101) (by decide) (by decide)
        obtain ⟨a_451, g_451⟩ : ∃ z, z = h_443.size := ⟨_, rfl⟩
        rw [← g_451] at A_451 D_451 st_451
        have ge_451 : n0 ≤ a_451 := Nat.le_trans Z_444 (Nat.le_of_eq g_451.symm)
        have ne_451_a_420 : a_420 ≠ a_451 := Nat.ne_of_lt (Nat.lt_of_lt_of_eq A_445.lt g_451.symm)
        have ne_451_t_439 : t_439 ≠ a_451 := Nat.ne_of_lt (Nat.lt_of_lt_of_eq V_448.lt g_451.symm)
        have ne_451_a_425 : a_425 ≠ a_451 := Nat.ne_of_lt (Nat.lt_of_lt_of_eq V_449.lt g_451.symm)
        have A_453 : Exa Z h_451 a_420 "java/lang/String" := A_445.ext E_451
        have F_454 : Fld Z h_451 a_420 "java/lang/String" "coder" "B" (.int 0) := F_446.ext E_451
        have F_455 : Fld Z h_451 a_420 "java/lang/String" "value" "[B" (.ref t_439) := F_447.ext E_451
        have V_456 : Arv Z h_451 t_439 kb_439 .byte (1 : Int32) ((([(nar .char (nar .char (x1 &&& (255 : Int32))))] : List Int32).map (fun c => c.toInt8.toInt32)).map Value.int) (.int 0) := V_448.ext E_451
        have V_457 : Arv Z h_451 a_425 kc_425 .char (1 : Int32) [(.int (nar .char (nar .char (x1 &&& (255 : Int32)))))] (.int (0 : Int32)) := V_449.ext E_451
        have O_458 : Old Z n0 h_451 := O_450.ext E_451
        have Z_452 : n0 ≤ h_451.size := Nat.le_trans Z_444 E_451.1
        have K1_452 := Nat.le_trans hkn_443 E_451.1
        have F_459 : Fld Z h_451 a_451 "com/example/muster/muster/role/RoleRelation" "roleId" "Ljava/lang/String;" (.null) := D_451 (Or.inr (hw _ (List.mem_of_getElem? (i := 41) rfl))) (ty := (.object "java/lang/String")) (by decide)
        have F_460 : Fld Z h_451 a_451 "com/example/muster/muster/role/RoleRelation" "namedId" "Ljava/lang/String;" (.null) := D_451 (Or.inr (hw _ (List.mem_of_getElem? (i := 43) rfl))) (ty := (.object "java/lang/String")) (by decide)
        have F_461 : Fld Z h_451 a_451 "com/example/muster/muster/role/RoleRelation" "namesParent" "Z" (.int (0 : Int32)) := D_451 (Or.inr (hw _ (List.mem_of_getElem? (i := 45) rfl))) (ty := .boolean) (by decide)
        have F_462 : Fld Z h_451 a_451 "com/example/muster/muster/role/RoleRelation" "element" "Ljava/lang/String;" (.null) := D_451 (Or.inr (hw _ (List.mem_of_getElem? (i := 47) rfl))) (ty := (.object "java/lang/String")) (by decide)
        have F_463 : Fld Z h_451 a_451 "com/example/muster/muster/role/RoleRelation" "line" "I" (.int (0 : Int32)) := D_451 (Or.inr (hw _ (List.mem_of_getElem? (i := 49) rfl))) (ty := .int) (by decide)
        have F_464 : Fld Z h_451 a_451 "com/example/muster/muster/role/RoleRelation" "column" "I" (.int (0 : Int32)) := D_451 (Or.inr (hw _ (List.mem_of_getElem? (i := 51) rfl))) (ty := .int) (by decide)
        refine own_st st_451 ?_
        show own_Go p e below _ T_451 (mkF m 104 #[.val (.int x0), .val (.int x1), .val (.int x2), .val (.int x3), .val (.int x4), .val (.int (1 : Int32)), .val (.null), .val (.ref a_420), .val (.ref la_443), .unset, .unset, .unset, .unset, .unset] [(.ref a_451)])
        refine own_dup X_451 hx (hb hby at_104) (pc' := 105) rfl rfl ?_
        refine own_aload X_451 hx (hb hby at_105) (pc' := 107) rfl rfl rfl ?_
        refine own_aload X_451 hx (hb hby at_107) (pc' := 109) rfl rfl rfl ?_
        refine own_iload X_451 hx (hb hby at_109) (pc' := 111) rfl rfl ?_
        refine own_aload X_451 hx (hb hby at_111) (pc' := 113) rfl rfl rfl ?_
        refine own_iloadN X_451 hx (hb hby at_113) (pc' := 114) rfl rfl ?_
        refine own_iload X_451 hx (hb hby at_114) (pc' := 116) rfl rfl ?_
        obtain ⟨_, _, ⟨T_465, L_465, k_465, n_465⟩, -, X_465, ⟨Lc_465, hQ_465, l_465, y_465, z_465⟩, st_465⟩ := X_451.specialBack hx  (y := (⟨"com/example/muster/muster/role/RoleRelation", "<init>", "(Ljava/lang/String;Ljava/lang/String;ZLjava/lang/String;II)V"⟩ : MethodName)) rfl hown (mvT hZ (hw _ (List.mem_of_getElem? (i := 36) rfl))) (mvT hZ (hw _ (List.mem_of_getElem? (i := 37) rfl))) (mvT hZ (hw _ (List.mem_of_getElem? (i := 38) rfl))) (by decide) (backOf (W := 1) (rm1 l Z a0 hw [] a_451 (.null) (.ref a_420) (1 : Int32) la_443 x3 x4 h_451 n0 Z_452 rfl rfl A_451 F_459 F_460 F_461 F_462 F_463 F_464 ge_451 rfl rfl) hZ (hw _ (List.mem_of_getElem? (i := 38) rfl)) (hw _ (List.mem_of_getElem? (i := 35) rfl)) (by decide) (by decide)) (g := (mkF m 116 #[.val (.int x0), .val (.int x1), .val (.int x2), .val (.int x3), .val (.int x4), .val (.int (1 : Int32)), .val (.null), .val (.ref a_420), .val (.ref la_443), .unset, .unset, .unset, .unset, .unset] [(.int x4), (.int x3), (.ref la_443), (.int (1 : Int32)), (.ref a_420), (.null), (.ref a_451), (.ref a_451)])) rfl (by rw [hml]; rfl) (Steps.refl _) (a := a_451) (argsL := [(.null), (.ref a_420), (.int (1 : Int32)), (.ref la_443), (.int x3), (.int x4)]) (rest := [(.ref a_451)]) (lenOf pd0_1 rfl) rfl (by show 2 * 0 + _ ≤ _; exact Nat.le_of_eq rfl) (hb hby at_116) (fun _ _ => ⟨rfl, e_451, (by decide : 6 + 0 ≤ _), (by decide : 60 + 0 ≤ _)⟩)
        dsimp only [Pt.U, Pt.locs, Pt.cells, Pt.slots] at X_465 l_465 y_465 z_465 st_465 hQ_465
        subst l_465 y_465 z_465
        refine own_tr st_465 ?_
        obtain ⟨rfl, Nq_465, Kq_465, q0_465, q1_465, q2_465⟩ := hQ_465
        have N_465 := Fr.app N_439 Nq_465
        have F_466 : Fld Z T_465.heap a_451 "com/example/muster/muster/role/RoleRelation" "roleId" "Ljava/lang/String;" (.null) := q0_465
        have F_467 : Fld Z T_465.heap a_451 "com/example/muster/muster/role/RoleRelation" "namedId" "Ljava/lang/String;" (.ref a_420) := q1_465
        have F_468 : Fld Z T_465.heap a_451 "com/example/muster/muster/role/RoleRelation" "namesParent" "Z" (.int (1 : Int32)) := q2_465
        have A_470 : Exa Z T_465.heap a_420 "java/lang/String" := A_453.keep Kq_465
        have F_471 : Fld Z T_465.heap a_420 "java/lang/String" "coder" "B" (.int 0) := F_454.keep Kq_465 (ninS ne_451_a_420 nin0)
        have F_472 : Fld Z T_465.heap a_420 "java/lang/String" "value" "[B" (.ref t_439) := F_455.keep Kq_465 (ninS ne_451_a_420 nin0)
        have V_473 : Arv Z T_465.heap t_439 kb_439 .byte (1 : Int32) ((([(nar .char (nar .char (x1 &&& (255 : Int32))))] : List Int32).map (fun c => c.toInt8.toInt32)).map Value.int) (.int 0) := V_456.keep Kq_465 (ninS ne_451_t_439 nin0)
        have V_474 : Arv Z T_465.heap a_425 kc_425 .char (1 : Int32) [(.int (nar .char (nar .char (x1 &&& (255 : Int32)))))] (.int (0 : Int32)) := V_457.keep Kq_465 (ninS ne_451_a_425 nin0)
        have O_475 : Old Z n0 T_465.heap := O_458.keep Kq_465 (allS ge_451 all0)
        have A_476 : Exa Z T_465.heap a_451 "com/example/muster/muster/role/RoleRelation" := A_451.keep Kq_465
        have Z_469 : n0 ≤ T_465.heap.size := Nat.le_trans Z_452 Kq_465.1
        have K1_469 := Nat.le_trans K1_452 Kq_465.1
        show own_Go p e below _ T_465 (mkF m 119 #[.val (.int x0), .val (.int x1), .val (.int x2), .val (.int x3), .val (.int x4), .val (.int (1 : Int32)), .val (.null), .val (.ref a_420), .val (.ref la_443), .unset, .unset, .unset, .unset, .unset] [(.ref a_451)])
        refine own_astore X_465 hx (hb hby at_119) (pc' := 121) (Ls' := #[.val (.int x0), .val (.int x1), .val (.int x2), .val (.int x3), .val (.int x4), .val (.int (1 : Int32)), .val (.null), .val (.ref a_420), .val (.ref la_443), .val (.ref a_451), .unset, .unset, .unset, .unset]) rfl rfl rfl ?_
        refine own_aload X_465 hx (hb hby at_121) (pc' := 123) rfl rfl rfl ?_
        obtain ⟨cq_477, kq_477, qa_477, qb_477, qc_477⟩ := isOf hZ rfl A_476
        obtain ⟨_, _, ⟨T_477, L_477, k_477, n_477⟩, -, X_477, ⟨Lc_477, hQ_477, l_477, y_477, z_477⟩, st_477⟩ := X_465.virtualBack hx  (y := (⟨"com/example/muster/muster/role/RoleRelation", "getChildId", "()Ljava/lang/String;"⟩ : MethodName)) (z := (⟨"com/example/muster/muster/role/RoleRelation", "getChildId", "()Ljava/lang/String;"⟩ : MethodName)) hown (mvT hZ (hw _ (List.mem_of_getElem? (i := 52) rfl))) (mvT hZ (hw _ (List.mem_of_getElem? (i := 53) rfl))) (notFace_of_selects (args := #[]) (mvT hZ (hw _ (List.mem_of_getElem? (i := 55) rfl)))) (mvT hZ (hw _ (List.mem_of_getElem? (i := 55) rfl))) (mvT hZ (hw _ (List.mem_of_getElem? (i := 54) rfl))) (by decide) (backOf (W := 0) (rm3 l Z a0 hw [] a_451 (.null) (.ref a_420) (1 : Int32) T_465.heap n0 Z_469 F_466 F_467 F_468 rfl rfl) hZ (hw _ (List.mem_of_getElem? (i := 56) rfl)) (hw _ (List.mem_of_getElem? (i := 35) rfl)) (by decide) (by decide)) qa_477 qc_477 (g := (mkF m 123 #[.val (.int x0), .val (.int x1), .val (.int x2), .val (.int x3), .val (.int x4), .val (.int (1 : Int32)), .val (.null), .val (.ref a_420), .val (.ref la_443), .val (.ref a_451), .unset, .unset, .unset, .unset] [(.ref a_451)])) rfl (by rw [hml]; rfl) (Steps.refl _) (argsL := []) (rest := []) (lenOf pd0_2 rfl) rfl (by show 2 * 0 + _ ≤ _; exact Nat.le_of_eq rfl) (hb hby at_123) (fun _ _ => ⟨rfl, rfl, (by decide : 6 + 0 ≤ _), (by decide : 60 + 0 ≤ _)⟩)
        dsimp only [Pt.U, Pt.locs, Pt.cells, Pt.slots] at X_477 l_477 y_477 z_477 st_477 hQ_477
        subst l_477 y_477 z_477
        refine own_tr st_477 ?_
        obtain ⟨rfl, Nq_477, eq_477⟩ := hQ_477
        have N_477 := Fr.app N_465 Nq_477
        dsimp only [Option.toList, List.cons_append, List.nil_append]
        rw [if_neg (by decide)]
        show own_Go p e below _ T_477 (mkF m 126 #[.val (.int x0), .val (.int x1), .val (.int x2), .val (.int x3), .val (.int x4), .val (.int (1 : Int32)), .val (.null), .val (.ref a_420), .val (.ref la_443), .val (.ref a_451), .unset, .unset, .unset, .unset] [(.null)])
        refine own_astore X_477 hx (hb hby at_126) (pc' := 128) (Ls' := #[.val (.int x0), .val (.int x1), .val (.int x2), .val (.int x3), .val (.int x4), .val (.int (1 : Int32)), .val (.null), .val (.ref a_420), .val (.ref la_443), .val (.ref a_451), .val (.null), .unset, .unset, .unset]) rfl rfl rfl ?_
        refine own_aload X_477 hx (hb hby at_128) (pc' := 130) rfl rfl rfl ?_
        obtain ⟨cq_478, kq_478, qa_478, qb_478, qc_478⟩ := isOf hZ eq_477 A_476
        obtain ⟨_, _, ⟨T_478, L_478, k_478, n_478⟩, -, X_478, ⟨Lc_478, hQ_478, l_478, y_478, z_478⟩, st_478⟩ := X_477.virtualBack hx  (y := (⟨"com/example/muster/muster/role/RoleRelation", "getParentId", "()Ljava/lang/String;"⟩ : MethodName)) (z := (⟨"com/example/muster/muster/role/RoleRelation", "getParentId", "()Ljava/lang/String;"⟩ : MethodName)) hown (mvT hZ (hw _ (List.mem_of_getElem? (i := 57) rfl))) (mvT hZ (hw _ (List.mem_of_getElem? (i := 58) rfl))) (notFace_of_selects (args := #[]) (mvT hZ (hw _ (List.mem_of_getElem? (i := 60) rfl)))) (mvT hZ (hw _ (List.mem_of_getElem? (i := 60) rfl))) (mvT hZ (hw _ (List.mem_of_getElem? (i := 59) rfl))) (by decide) (backOf (W := 0) (rm2 l Z a0 hw [] a_451 (.null) (.ref a_420) (1 : Int32) T_465.heap n0 Z_469 F_466 F_467 F_468 rfl rfl) hZ (hw _ (List.mem_of_getElem? (i := 61) rfl)) (hw _ (List.mem_of_getElem? (i := 35) rfl)) (by decide) (by decide)) qa_478 qc_478 (g := (mkF m 130 #[.val (.int x0), .val (.int x1), .val (.int x2), .val (.int x3), .val (.int x4), .val (.int (1 : Int32)), .val (.null), .val (.ref a_420), .val (.ref la_443), .val (.ref a_451), .val (.null), .unset, .unset, .unset] [(.ref a_451)])) rfl (by rw [hml]; rfl) (Steps.refl _) (argsL := []) (rest := []) (lenOf pd0_2 rfl) rfl (by show 2 * 0 + _ ≤ _; exact Nat.le_of_eq rfl) (hb hby at_130) (fun _ _ => ⟨rfl, eq_477, (by decide : 6 + 0 ≤ _), (by decide : 60 + 0 ≤ _)⟩)
        dsimp only [Pt.U, Pt.locs, Pt.cells, Pt.slots] at X_478 l_478 y_478 z_478 st_478 hQ_478
        subst l_478 y_478 z_478
        refine own_tr st_478 ?_
        obtain ⟨rfl, Nq_478, eq_478⟩ := hQ_478
        have N_478 := Fr.app N_477 Nq_478
        dsimp only [Option.toList, List.cons_append, List.nil_append]
        rw [if_neg (by decide)]
        show own_Go p e below _ T_478 (mkF m 133 #[.val (.int x0), .val (.int x1), .val (.int x2), .val (.int x3), .val (.int x4), .val (.int (1 : Int32)), .val (.null), .val (.ref a_420), .val (.ref la_443), .val (.ref a_451), .val (.null), .unset, .unset, .unset] [(.ref a_420)])
        refine own_astore X_478 hx (hb hby at_133) (pc' := 135) (Ls' := #[.val (.int x0), .val (.int x1), .val (.int x2), .val (.int x3), .val (.int x4), .val (.int (1 : Int32)), .val (.null), .val (.ref a_420), .val (.ref la_443), .val (.ref a_451), .val (.null), .val (.ref a_420), .unset, .unset]) rfl rfl rfl ?_
        refine own_iload X_478 hx (hb hby at_135) (pc' := 137) rfl rfl ?_
        refine own_ifN X_478 hx (hb hby at_137) (by decide) (pc' := 140) rfl ?_
        refine own_aload X_478 hx (hb hby at_140) (pc' := 142) rfl rfl rfl ?_
        refine own_goto X_478 hx (hb hby at_142) (pc' := 147) (by decide) (by decide) ?_
        refine own_astore X_478 hx (hb hby at_147) (pc' := 149) (Ls' := #[.val (.int x0), .val (.int x1), .val (.int x2), .val (.int x3), .val (.int x4), .val (.int (1 : Int32)), .val (.null), .val (.ref a_420), .val (.ref la_443), .val (.ref a_451), .val (.null), .val (.ref a_420), .val (.null), .unset]) rfl rfl rfl ?_
        refine own_iload X_478 hx (hb hby at_149) (pc' := 151) rfl rfl ?_
        refine own_ifN X_478 hx (hb hby at_151) (by decide) (pc' := 154) rfl ?_
        refine own_aload X_478 hx (hb hby at_154) (pc' := 156) rfl rfl rfl ?_
        refine own_goto X_478 hx (hb hby at_156) (pc' := 161) (by decide) (by decide) ?_
        refine own_astore X_478 hx (hb hby at_161) (pc' := 163) (Ls' := #[.val (.int x0), .val (.int x1), .val (.int x2), .val (.int x3), .val (.int x4), .val (.int (1 : Int32)), .val (.null), .val (.ref a_420), .val (.ref la_443), .val (.ref a_451), .val (.null), .val (.ref a_420), .val (.null), .val (.ref a_420)]) rfl rfl rfl ?_
        refine own_aload X_478 hx (hb hby at_163) (pc' := 165) rfl rfl rfl ?_
        refine own_aload X_478 hx (hb hby at_165) (pc' := 167) rfl rfl rfl ?_
        refine own_acmpN X_478 hx rfl rfl (hb hby at_167) (XT.aa_ne_f rfl) (pc' := 170) rfl ?_
        refine own_aload X_478 hx (hb hby at_170) (pc' := 172) rfl rfl rfl ?_
        refine own_aload X_478 hx (hb hby at_172) (pc' := 174) rfl rfl rfl ?_
        refine own_acmpN X_478 hx rfl rfl (hb hby at_174) (XT.aa_ne_f rfl) (pc' := 177) rfl ?_
        refine own_aload X_478 hx (hb hby at_177) (pc' := 179) rfl rfl rfl ?_
        obtain ⟨cq_479, kq_479, qa_479, qb_479, qc_479⟩ := isOf hZ eq_478 A_476
        obtain ⟨_, _, ⟨T_479, L_479, k_479, n_479⟩, -, X_479, ⟨Lc_479, hQ_479, l_479, y_479, z_479⟩, st_479⟩ := X_478.virtualBack hx  (y := (⟨"com/example/muster/muster/role/RoleRelation", "getRoleId", "()Ljava/lang/String;"⟩ : MethodName)) (z := (⟨"com/example/muster/muster/role/RoleRelation", "getRoleId", "()Ljava/lang/String;"⟩ : MethodName)) hown (mvT hZ (hw _ (List.mem_of_getElem? (i := 62) rfl))) (mvT hZ (hw _ (List.mem_of_getElem? (i := 63) rfl))) (notFace_of_selects (args := #[]) (mvT hZ (hw _ (List.mem_of_getElem? (i := 65) rfl)))) (mvT hZ (hw _ (List.mem_of_getElem? (i := 65) rfl))) (mvT hZ (hw _ (List.mem_of_getElem? (i := 64) rfl))) (by decide) (backOf (W := 0) (rm4 l Z a0 hw [] a_451 (.null) T_465.heap n0 Z_469 F_466 rfl) hZ (hw _ (List.mem_of_getElem? (i := 66) rfl)) (hw _ (List.mem_of_getElem? (i := 35) rfl)) (by decide) (by decide)) qa_479 qc_479 (g := (mkF m 179 #[.val (.int x0), .val (.int x1), .val (.int x2), .val (.int x3), .val (.int x4), .val (.int (1 : Int32)), .val (.null), .val (.ref a_420), .val (.ref la_443), .val (.ref a_451), .val (.null), .val (.ref a_420), .val (.null), .val (.ref a_420)] [(.ref a_451)])) rfl (by rw [hml]; rfl) (Steps.refl _) (argsL := []) (rest := []) (lenOf pd0_2 rfl) rfl (by show 2 * 0 + _ ≤ _; exact Nat.le_of_eq rfl) (hb hby at_179) (fun _ _ => ⟨rfl, eq_478, (by decide : 6 + 0 ≤ _), (by decide : 60 + 0 ≤ _)⟩)
        dsimp only [Pt.U, Pt.locs, Pt.cells, Pt.slots] at X_479 l_479 y_479 z_479 st_479 hQ_479
        subst l_479 y_479 z_479
        refine own_tr st_479 ?_
        obtain ⟨rfl, Nq_479, eq_479⟩ := hQ_479
        have N_479 := Fr.app N_478 Nq_479
        show own_Go p e below _ T_479 (mkF m 182 #[.val (.int x0), .val (.int x1), .val (.int x2), .val (.int x3), .val (.int x4), .val (.int (1 : Int32)), .val (.null), .val (.ref a_420), .val (.ref la_443), .val (.ref a_451), .val (.null), .val (.ref a_420), .val (.null), .val (.ref a_420)] [(.null)])
        refine own_aload X_479 hx (hb hby at_182) (pc' := 184) rfl rfl rfl ?_
        refine own_acmpN X_479 hx rfl rfl (hb hby at_184) (XT.aa_ne_f rfl) (pc' := 187) rfl ?_
        refine own_aload X_479 hx (hb hby at_187) (pc' := 189) rfl rfl rfl ?_
        obtain ⟨cq_480, kq_480, qa_480, qb_480, qc_480⟩ := isOf hZ eq_479 A_476
        obtain ⟨_, _, ⟨T_480, L_480, k_480, n_480⟩, -, X_480, ⟨Lc_480, hQ_480, l_480, y_480, z_480⟩, st_480⟩ := X_479.virtualBack hx  (y := (⟨"com/example/muster/muster/role/RoleRelation", "getNamedId", "()Ljava/lang/String;"⟩ : MethodName)) (z := (⟨"com/example/muster/muster/role/RoleRelation", "getNamedId", "()Ljava/lang/String;"⟩ : MethodName)) hown (mvT hZ (hw _ (List.mem_of_getElem? (i := 67) rfl))) (mvT hZ (hw _ (List.mem_of_getElem? (i := 68) rfl))) (notFace_of_selects (args := #[]) (mvT hZ (hw _ (List.mem_of_getElem? (i := 70) rfl)))) (mvT hZ (hw _ (List.mem_of_getElem? (i := 70) rfl))) (mvT hZ (hw _ (List.mem_of_getElem? (i := 69) rfl))) (by decide) (backOf (W := 0) (rm5 l Z a0 hw [] a_451 (.ref a_420) T_465.heap n0 Z_469 F_467 rfl) hZ (hw _ (List.mem_of_getElem? (i := 71) rfl)) (hw _ (List.mem_of_getElem? (i := 35) rfl)) (by decide) (by decide)) qa_480 qc_480 (g := (mkF m 189 #[.val (.int x0), .val (.int x1), .val (.int x2), .val (.int x3), .val (.int x4), .val (.int (1 : Int32)), .val (.null), .val (.ref a_420), .val (.ref la_443), .val (.ref a_451), .val (.null), .val (.ref a_420), .val (.null), .val (.ref a_420)] [(.ref a_451)])) rfl (by rw [hml]; rfl) (Steps.refl _) (argsL := []) (rest := []) (lenOf pd0_2 rfl) rfl (by show 2 * 0 + _ ≤ _; exact Nat.le_of_eq rfl) (hb hby at_189) (fun _ _ => ⟨rfl, eq_479, (by decide : 6 + 0 ≤ _), (by decide : 60 + 0 ≤ _)⟩)
        dsimp only [Pt.U, Pt.locs, Pt.cells, Pt.slots] at X_480 l_480 y_480 z_480 st_480 hQ_480
        subst l_480 y_480 z_480
        refine own_tr st_480 ?_
        obtain ⟨rfl, Nq_480, eq_480⟩ := hQ_480
        have N_480 := Fr.app N_479 Nq_480
        show own_Go p e below _ T_480 (mkF m 192 #[.val (.int x0), .val (.int x1), .val (.int x2), .val (.int x3), .val (.int x4), .val (.int (1 : Int32)), .val (.null), .val (.ref a_420), .val (.ref la_443), .val (.ref a_451), .val (.null), .val (.ref a_420), .val (.null), .val (.ref a_420)] [(.ref a_420)])
        refine own_aload X_480 hx (hb hby at_192) (pc' := 194) rfl rfl rfl ?_
        refine own_acmpN X_480 hx rfl rfl (hb hby at_194) (XT.aa_ne_f rfl) (pc' := 197) rfl ?_
        refine own_iconst X_480 hx (1) (hb hby at_197) (pc' := 198) rfl rfl ?_
        refine own_goto X_480 hx (hb hby at_198) (pc' := 202) (by decide) (by decide) ?_
        refine own_retZW X_480 hS (by rw [eq_480]; exact K1_469) hx hlk Bd.returns (by simp) (hb hby at_202) (by decide) (by decide) ?_
        exact ⟨rfl, N_480⟩
      · skip
        refine own_ifN X0 hx (hb hby at_59) (XT.i0_eq_f c_419) (pc' := 62) rfl ?_
        refine own_null X0 hx (hb hby at_62) (pc' := 63) rfl ?_
        refine own_goto X0 hx (hb hby at_63) (pc' := 85) (by decide) (by decide) ?_
        refine own_astore X0 hx (hb hby at_85) (pc' := 87) (Ls' := #[.val (.int x0), .val (.int x1), .val (.int x2), .val (.int x3), .val (.int x4), .val (.int (1 : Int32)), .val (.null), .val (.null), .unset, .unset, .unset, .unset, .unset, .unset]) rfl rfl rfl ?_
        refine own_iload X0 hx (hb hby at_87) (pc' := 89) rfl rfl ?_
        refine own_ifN X0 hx (hb hby at_89) (by decide) (pc' := 92) rfl ?_
        obtain ⟨la_481, T_481, h_481, kn_481, X_481, e_481, E_481, hS, hkn_481, hZ, hown, st_481⟩ := ldcS X0 hx hZ hown (hw _ (List.mem_of_getElem? (i := 72) rfl)) own_wS e0 hS (Nat.le_refl _) (g := (mkF m 92 #[.val (.int x0), .val (.int x1), .val (.int x2), .val (.int x3), .val (.int x4), .val (.int (1 : Int32)), .val (.null), .val (.null), .unset, .unset, .unset, .unset, .unset, .unset] [])) rfl (hb hby at_92) (n := 44) (by decide) (by decide) (by decide) (by decide)
        have O_483 : Old Z n0 h_481 := O_a.ext E_481
        have Z_482 : n0 ≤ h_481.size := Nat.le_trans Z0 E_481.1
        refine own_st st_481 ?_
        show own_Go p e below _ T_481 (mkF m 94 #[.val (.int x0), .val (.int x1), .val (.int x2), .val (.int x3), .val (.int x4), .val (.int (1 : Int32)), .val (.null), .val (.null), .unset, .unset, .unset, .unset, .unset, .unset] [(.ref la_481)])
        refine own_goto X_481 hx (hb hby at_94) (pc' := 99) (by decide) (by decide) ?_
        refine own_astore X_481 hx (hb hby at_99) (pc' := 101) (Ls' := #[.val (.int x0), .val (.int x1), .val (.int x2), .val (.int x3), .val (.int x4), .val (.int (1 : Int32)), .val (.null), .val (.null), .val (.ref la_481), .unset, .unset, .unset, .unset, .unset]) rfl rfl rfl ?_
        obtain ⟨T_484, h_484, X_484, e_484, E_484, A_484, D_484, -, st_484⟩ := newO X_481 hx hZ hown (hw _ (List.mem_of_getElem? (i := 33) rfl)) (hw _ (List.mem_of_getElem? (i := 34) rfl)) (hw _ (List.mem_of_getElem? (i := 35) rfl)) e_481 (g := (mkF m 101 #[.val (.int x0), .val (.int x1), .val (.int x2), .val (.int x3), .val (.int x4), .val (.int (1 : Int32)), .val (.null), .val (.null), .val (.ref la_481), .unset, .unset, .unset, .unset, .unset] [])) rfl (hb hby at_101) (by decide) (by decide)
        obtain ⟨a_484, g_484⟩ : ∃ z, z = h_481.size := ⟨_, rfl⟩
        rw [← g_484] at A_484 D_484 st_484
        have ge_484 : n0 ≤ a_484 := Nat.le_trans Z_482 (Nat.le_of_eq g_484.symm)
        have O_486 : Old Z n0 h_484 := O_483.ext E_484
        have Z_485 : n0 ≤ h_484.size := Nat.le_trans Z_482 E_484.1
        have K1_485 := Nat.le_trans hkn_481 E_484.1
        have F_487 : Fld Z h_484 a_484 "com/example/muster/muster/role/RoleRelation" "roleId" "Ljava/lang/String;" (.null) := D_484 (Or.inr (hw _ (List.mem_of_getElem? (i := 41) rfl))) (ty := (.object "java/lang/String")) (by decide)
        have F_488 : Fld Z h_484 a_484 "com/example/muster/muster/role/RoleRelation" "namedId" "Ljava/lang/String;" (.null) := D_484 (Or.inr (hw _ (List.mem_of_getElem? (i := 43) rfl))) (ty := (.object "java/lang/String")) (by decide)
        have F_489 : Fld Z h_484 a_484 "com/example/muster/muster/role/RoleRelation" "namesParent" "Z" (.int (0 : Int32)) := D_484 (Or.inr (hw _ (List.mem_of_getElem? (i := 45) rfl))) (ty := .boolean) (by decide)
        have F_490 : Fld Z h_484 a_484 "com/example/muster/muster/role/RoleRelation" "element" "Ljava/lang/String;" (.null) := D_484 (Or.inr (hw _ (List.mem_of_getElem? (i := 47) rfl))) (ty := (.object "java/lang/String")) (by decide)
        have F_491 : Fld Z h_484 a_484 "com/example/muster/muster/role/RoleRelation" "line" "I" (.int (0 : Int32)) := D_484 (Or.inr (hw _ (List.mem_of_getElem? (i := 49) rfl))) (ty := .int) (by decide)
        have F_492 : Fld Z h_484 a_484 "com/example/muster/muster/role/RoleRelation" "column" "I" (.int (0 : Int32)) := D_484 (Or.inr (hw _ (List.mem_of_getElem? (i := 51) rfl))) (ty := .int) (by decide)
        refine own_st st_484 ?_
        show own_Go p e below _ T_484 (mkF m 104 #[.val (.int x0), .val (.int x1), .val (.int x2), .val (.int x3), .val (.int x4), .val (.int (1 : Int32)), .val (.null), .val (.null), .val (.ref la_481), .unset, .unset, .unset, .unset, .unset] [(.ref a_484)])
        refine own_dup X_484 hx (hb hby at_104) (pc' := 105) rfl rfl ?_
        refine own_aload X_484 hx (hb hby at_105) (pc' := 107) rfl rfl rfl ?_
        refine own_aload X_484 hx (hb hby at_107) (pc' := 109) rfl rfl rfl ?_
        refine own_iload X_484 hx (hb hby at_109) (pc' := 111) rfl rfl ?_
        refine own_aload X_484 hx (hb hby at_111) (pc' := 113) rfl rfl rfl ?_
        refine own_iloadN X_484 hx (hb hby at_113) (pc' := 114) rfl rfl ?_
        refine own_iload X_484 hx (hb hby at_114) (pc' := 116) rfl rfl ?_
        obtain ⟨_, _, ⟨T_493, L_493, k_493, n_493⟩, -, X_493, ⟨Lc_493, hQ_493, l_493, y_493, z_493⟩, st_493⟩ := X_484.specialBack hx  (y := (⟨"com/example/muster/muster/role/RoleRelation", "<init>", "(Ljava/lang/String;Ljava/lang/String;ZLjava/lang/String;II)V"⟩ : MethodName)) rfl hown (mvT hZ (hw _ (List.mem_of_getElem? (i := 36) rfl))) (mvT hZ (hw _ (List.mem_of_getElem? (i := 37) rfl))) (mvT hZ (hw _ (List.mem_of_getElem? (i := 38) rfl))) (by decide) (backOf (W := 1) (rm1 l Z a0 hw [] a_484 (.null) (.null) (1 : Int32) la_481 x3 x4 h_484 n0 Z_485 rfl rfl A_484 F_487 F_488 F_489 F_490 F_491 F_492 ge_484 rfl rfl) hZ (hw _ (List.mem_of_getElem? (i := 38) rfl)) (hw _ (List.mem_of_getElem? (i := 35) rfl)) (by decide) (by decide)) (g := (mkF m 116 #[.val (.int x0), .val (.int x1), .val (.int x2), .val (.int x3), .val (.int x4), .val (.int (1 : Int32)), .val (.null), .val (.null), .val (.ref la_481), .unset, .unset, .unset, .unset, .unset] [(.int x4), (.int x3), (.ref la_481), (.int (1 : Int32)), (.null), (.null), (.ref a_484), (.ref a_484)])) rfl (by rw [hml]; rfl) (Steps.refl _) (a := a_484) (argsL := [(.null), (.null), (.int (1 : Int32)), (.ref la_481), (.int x3), (.int x4)]) (rest := [(.ref a_484)]) (lenOf pd0_1 rfl) rfl (by show 2 * 0 + _ ≤ _; exact Nat.le_of_eq rfl) (hb hby at_116) (fun _ _ => ⟨rfl, e_484, (by decide : 3 + 0 ≤ _), (by decide : 54 + 0 ≤ _)⟩)
        dsimp only [Pt.U, Pt.locs, Pt.cells, Pt.slots] at X_493 l_493 y_493 z_493 st_493 hQ_493
        subst l_493 y_493 z_493
        refine own_tr st_493 ?_
        obtain ⟨rfl, Nq_493, Kq_493, q0_493, q1_493, q2_493⟩ := hQ_493
        have N_493 := Fr.app N0 Nq_493
        have F_494 : Fld Z T_493.heap a_484 "com/example/muster/muster/role/RoleRelation" "roleId" "Ljava/lang/String;" (.null) := q0_493
        have F_495 : Fld Z T_493.heap a_484 "com/example/muster/muster/role/RoleRelation" "namedId" "Ljava/lang/String;" (.null) := q1_493
        have F_496 : Fld Z T_493.heap a_484 "com/example/muster/muster/role/RoleRelation" "namesParent" "Z" (.int (1 : Int32)) := q2_493
        have O_498 : Old Z n0 T_493.heap := O_486.keep Kq_493 (allS ge_484 all0)
        have A_499 : Exa Z T_493.heap a_484 "com/example/muster/muster/role/RoleRelation" := A_484.keep Kq_493
        have Z_497 : n0 ≤ T_493.heap.size := Nat.le_trans Z_485 Kq_493.1
        have K1_497 := Nat.le_trans K1_485 Kq_493.1
        show own_Go p e below _ T_493 (mkF m 119 #[.val (.int x0), .val (.int x1), .val (.int x2), .val (.int x3), .val (.int x4), .val (.int (1 : Int32)), .val (.null), .val (.null), .val (.ref la_481), .unset, .unset, .unset, .unset, .unset] [(.ref a_484)])
        refine own_astore X_493 hx (hb hby at_119) (pc' := 121) (Ls' := #[.val (.int x0), .val (.int x1), .val (.int x2), .val (.int x3), .val (.int x4), .val (.int (1 : Int32)), .val (.null), .val (.null), .val (.ref la_481), .val (.ref a_484), .unset, .unset, .unset, .unset]) rfl rfl rfl ?_
        refine own_aload X_493 hx (hb hby at_121) (pc' := 123) rfl rfl rfl ?_
        obtain ⟨cq_500, kq_500, qa_500, qb_500, qc_500⟩ := isOf hZ rfl A_499
        obtain ⟨_, _, ⟨T_500, L_500, k_500, n_500⟩, -, X_500, ⟨Lc_500, hQ_500, l_500, y_500, z_500⟩, st_500⟩ := X_493.virtualBack hx  (y := (⟨"com/example/muster/muster/role/RoleRelation", "getChildId", "()Ljava/lang/String;"⟩ : MethodName)) (z := (⟨"com/example/muster/muster/role/RoleRelation", "getChildId", "()Ljava/lang/String;"⟩ : MethodName)) hown (mvT hZ (hw _ (List.mem_of_getElem? (i := 52) rfl))) (mvT hZ (hw _ (List.mem_of_getElem? (i := 53) rfl))) (notFace_of_selects (args := #[]) (mvT hZ (hw _ (List.mem_of_getElem? (i := 55) rfl)))) (mvT hZ (hw _ (List.mem_of_getElem? (i := 55) rfl))) (mvT hZ (hw _ (List.mem_of_getElem? (i := 54) rfl))) (by decide) (backOf (W := 0) (rm3 l Z a0 hw [] a_484 (.null) (.null) (1 : Int32) T_493.heap n0 Z_497 F_494 F_495 F_496 rfl rfl) hZ (hw _ (List.mem_of_getElem? (i := 56) rfl)) (hw _ (List.mem_of_getElem? (i := 35) rfl)) (by decide) (by decide)) qa_500 qc_500 (g := (mkF m 123 #[.val (.int x0), .val (.int x1), .val (.int x2), .val (.int x3), .val (.int x4), .val (.int (1 : Int32)), .val (.null), .val (.null), .val (.ref la_481), .val (.ref a_484), .unset, .unset, .unset, .unset] [(.ref a_484)])) rfl (by rw [hml]; rfl) (Steps.refl _) (argsL := []) (rest := []) (lenOf pd0_2 rfl) rfl (by show 2 * 0 + _ ≤ _; exact Nat.le_of_eq rfl) (hb hby at_123) (fun _ _ => ⟨rfl, rfl, (by decide : 3 + 0 ≤ _), (by decide : 54 + 0 ≤ _)⟩)
        dsimp only [Pt.U, Pt.locs, Pt.cells, Pt.slots] at X_500 l_500 y_500 z_500 st_500 hQ_500
        subst l_500 y_500 z_500
        refine own_tr st_500 ?_
        obtain ⟨rfl, Nq_500, eq_500⟩ := hQ_500
        have N_500 := Fr.app N_493 Nq_500
        dsimp only [Option.toList, List.cons_append, List.nil_append]
        rw [if_neg (by decide)]
        show own_Go p e below _ T_500 (mkF m 126 #[.val (.int x0), .val (.int x1), .val (.int x2), .val (.int x3), .val (.int x4), .val (.int (1 : Int32)), .val (.null), .val (.null), .val (.ref la_481), .val (.ref a_484), .unset, .unset, .unset, .unset] [(.null)])
        refine own_astore X_500 hx (hb hby at_126) (pc' := 128) (Ls' := #[.val (.int x0), .val (.int x1), .val (.int x2), .val (.int x3), .val (.int x4), .val (.int (1 : Int32)), .val (.null), .val (.null), .val (.ref la_481), .val (.ref a_484), .val (.null), .unset, .unset, .unset]) rfl rfl rfl ?_
        refine own_aload X_500 hx (hb hby at_128) (pc' := 130) rfl rfl rfl ?_
        obtain ⟨cq_501, kq_501, qa_501, qb_501, qc_501⟩ := isOf hZ eq_500 A_499
        obtain ⟨_, _, ⟨T_501, L_501, k_501, n_501⟩, -, X_501, ⟨Lc_501, hQ_501, l_501, y_501, z_501⟩, st_501⟩ := X_500.virtualBack hx  (y := (⟨"com/example/muster/muster/role/RoleRelation", "getParentId", "()Ljava/lang/String;"⟩ : MethodName)) (z := (⟨"com/example/muster/muster/role/RoleRelation", "getParentId", "()Ljava/lang/String;"⟩ : MethodName)) hown (mvT hZ (hw _ (List.mem_of_getElem? (i := 57) rfl))) (mvT hZ (hw _ (List.mem_of_getElem? (i := 58) rfl))) (notFace_of_selects (args := #[]) (mvT hZ (hw _ (List.mem_of_getElem? (i := 60) rfl)))) (mvT hZ (hw _ (List.mem_of_getElem? (i := 60) rfl))) (mvT hZ (hw _ (List.mem_of_getElem? (i := 59) rfl))) (by decide) (backOf (W := 0) (rm2 l Z a0 hw [] a_484 (.null) (.null) (1 : Int32) T_493.heap n0 Z_497 F_494 F_495 F_496 rfl rfl) hZ (hw _ (List.mem_of_getElem? (i := 61) rfl)) (hw _ (List.mem_of_getElem? (i := 35) rfl)) (by decide) (by decide)) qa_501 qc_501 (g := (mkF m 130 #[.val (.int x0), .val (.int x1), .val (.int x2), .val (.int x3), .val (.int x4), .val (.int (1 : Int32)), .val (.null), .val (.null), .val (.ref la_481), .val (.ref a_484), .val (.null), .unset, .unset, .unset] [(.ref a_484)])) rfl (by rw [hml]; rfl) (Steps.refl _) (argsL := []) (rest := []) (lenOf pd0_2 rfl) rfl (by show 2 * 0 + _ ≤ _; exact Nat.le_of_eq rfl) (hb hby at_130) (fun _ _ => ⟨rfl, eq_500, (by decide : 3 + 0 ≤ _), (by decide : 54 + 0 ≤ _)⟩)
        dsimp only [Pt.U, Pt.locs, Pt.cells, Pt.slots] at X_501 l_501 y_501 z_501 st_501 hQ_501
        subst l_501 y_501 z_501
        refine own_tr st_501 ?_
        obtain ⟨rfl, Nq_501, eq_501⟩ := hQ_501
        have N_501 := Fr.app N_500 Nq_501
        dsimp only [Option.toList, List.cons_append, List.nil_append]
        rw [if_neg (by decide)]
        show own_Go p e below _ T_501 (mkF m 133 #[.val (.int x0), .val (.int x1), .val (.int x2), .val (.int x3), .val (.int x4), .val (.int (1 : Int32)), .val (.null), .val (.null), .val (.ref la_481), .val (.ref a_484), .val (.null), .unset, .unset, .unset] [(.null)])
        refine own_astore X_501 hx (hb hby at_133) (pc' := 135) (Ls' := #[.val (.int x0), .val (.int x1), .val (.int x2), .val (.int x3), .val (.int x4), .val (.int (1 : Int32)), .val (.null), .val (.null), .val (.ref la_481), .val (.ref a_484), .val (.null), .val (.null), .unset, .unset]) rfl rfl rfl ?_
        refine own_iload X_501 hx (hb hby at_135) (pc' := 137) rfl rfl ?_
        refine own_ifN X_501 hx (hb hby at_137) (by decide) (pc' := 140) rfl ?_
        refine own_aload X_501 hx (hb hby at_140) (pc' := 142) rfl rfl rfl ?_
        refine own_goto X_501 hx (hb hby at_142) (pc' := 147) (by decide) (by decide) ?_
        refine own_astore X_501 hx (hb hby at_147) (pc' := 149) (Ls' := #[.val (.int x0), .val (.int x1), .val (.int x2), .val (.int x3), .val (.int x4), .val (.int (1 : Int32)), .val (.null), .val (.null), .val (.ref la_481), .val (.ref a_484), .val (.null), .val (.null), .val (.null), .unset]) rfl rfl rfl ?_
        refine own_iload X_501 hx (hb hby at_149) (pc' := 151) rfl rfl ?_
        refine own_ifN X_501 hx (hb hby at_151) (by decide) (pc' := 154) rfl ?_
        refine own_aload X_501 hx (hb hby at_154) (pc' := 156) rfl rfl rfl ?_
        refine own_goto X_501 hx (hb hby at_156) (pc' := 161) (by decide) (by decide) ?_
        refine own_astore X_501 hx (hb hby at_161) (pc' := 163) (Ls' := #[.val (.int x0), .val (.int x1), .val (.int x2), .val (.int x3), .val (.int x4), .val (.int (1 : Int32)), .val (.null), .val (.null), .val (.ref la_481), .val (.ref a_484), .val (.null), .val (.null), .val (.null), .val (.null)]) rfl rfl rfl ?_
        refine own_aload X_501 hx (hb hby at_163) (pc' := 165) rfl rfl rfl ?_
        refine own_aload X_501 hx (hb hby at_165) (pc' := 167) rfl rfl rfl ?_
        refine own_acmpN X_501 hx rfl rfl (hb hby at_167) (XT.aa_ne_f rfl) (pc' := 170) rfl ?_
        refine own_aload X_501 hx (hb hby at_170) (pc' := 172) rfl rfl rfl ?_
        refine own_aload X_501 hx (hb hby at_172) (pc' := 174) rfl rfl rfl ?_
        refine own_acmpN X_501 hx rfl rfl (hb hby at_174) (XT.aa_ne_f rfl) (pc' := 177) rfl ?_
        refine own_aload X_501 hx (hb hby at_177) (pc' := 179) rfl rfl rfl ?_
        obtain ⟨cq_502, kq_502, qa_502, qb_502, qc_502⟩ := isOf hZ eq_501 A_499
        obtain ⟨_, _, ⟨T_502, L_502, k_502, n_502⟩, -, X_502, ⟨Lc_502, hQ_502, l_502, y_502, z_502⟩, st_502⟩ := X_501.virtualBack hx  (y := (⟨"com/example/muster/muster/role/RoleRelation", "getRoleId", "()Ljava/lang/String;"⟩ : MethodName)) (z := (⟨"com/example/muster/muster/role/RoleRelation", "getRoleId", "()Ljava/lang/String;"⟩ : MethodName)) hown (mvT hZ (hw _ (List.mem_of_getElem? (i := 62) rfl))) (mvT hZ (hw _ (List.mem_of_getElem? (i := 63) rfl))) (notFace_of_selects (args := #[]) (mvT hZ (hw _ (List.mem_of_getElem? (i := 65) rfl)))) (mvT hZ (hw _ (List.mem_of_getElem? (i := 65) rfl))) (mvT hZ (hw _ (List.mem_of_getElem? (i := 64) rfl))) (by decide) (backOf (W := 0) (rm4 l Z a0 hw [] a_484 (.null) T_493.heap n0 Z_497 F_494 rfl) hZ (hw _ (List.mem_of_getElem? (i := 66) rfl)) (hw _ (List.mem_of_getElem? (i := 35) rfl)) (by decide) (by decide)) qa_502 qc_502 (g := (mkF m 179 #[.val (.int x0), .val (.int x1), .val (.int x2), .val (.int x3), .val (.int x4), .val (.int (1 : Int32)), .val (.null), .val (.null), .val (.ref la_481), .val (.ref a_484), .val (.null), .val (.null), .val (.null), .val (.null)] [(.ref a_484)])) rfl (by rw [hml]; rfl) (Steps.refl _) (argsL := []) (rest := []) (lenOf pd0_2 rfl) rfl (by show 2 * 0 + _ ≤ _; exact Nat.le_of_eq rfl) (hb hby at_179) (fun _ _ => ⟨rfl, eq_501, (by decide : 3 + 0 ≤ _), (by decide : 54 + 0 ≤ _)⟩)
        dsimp only [Pt.U, Pt.locs, Pt.cells, Pt.slots] at X_502 l_502 y_502 z_502 st_502 hQ_502
        subst l_502 y_502 z_502
        refine own_tr st_502 ?_
        obtain ⟨rfl, Nq_502, eq_502⟩ := hQ_502
        have N_502 := Fr.app N_501 Nq_502
        show own_Go p e below _ T_502 (mkF m 182 #[.val (.int x0), .val (.int x1), .val (.int x2), .val (.int x3), .val (.int x4), .val (.int (1 : Int32)), .val (.null), .val (.null), .val (.ref la_481), .val (.ref a_484), .val (.null), .val (.null), .val (.null), .val (.null)] [(.null)])
        refine own_aload X_502 hx (hb hby at_182) (pc' := 184) rfl rfl rfl ?_
        refine own_acmpN X_502 hx rfl rfl (hb hby at_184) (XT.aa_ne_f rfl) (pc' := 187) rfl ?_
        refine own_aload X_502 hx (hb hby at_187) (pc' := 189) rfl rfl rfl ?_
        obtain ⟨cq_503, kq_503, qa_503, qb_503, qc_503⟩ := isOf hZ eq_502 A_499
        obtain ⟨_, _, ⟨T_503, L_503, k_503, n_503⟩, -, X_503, ⟨Lc_503, hQ_503, l_503, y_503, z_503⟩, st_503⟩ := X_502.virtualBack hx  (y := (⟨"com/example/muster/muster/role/RoleRelation", "getNamedId", "()Ljava/lang/String;"⟩ : MethodName)) (z := (⟨"com/example/muster/muster/role/RoleRelation", "getNamedId", "()Ljava/lang/String;"⟩ : MethodName)) hown (mvT hZ (hw _ (List.mem_of_getElem? (i := 67) rfl))) (mvT hZ (hw _ (List.mem_of_getElem? (i := 68) rfl))) (notFace_of_selects (args := #[]) (mvT hZ (hw _ (List.mem_of_getElem? (i := 70) rfl)))) (mvT hZ (hw _ (List.mem_of_getElem? (i := 70) rfl))) (mvT hZ (hw _ (List.mem_of_getElem? (i := 69) rfl))) (by decide) (backOf (W := 0) (rm5 l Z a0 hw [] a_484 (.null) T_493.heap n0 Z_497 F_495 rfl) hZ (hw _ (List.mem_of_getElem? (i := 71) rfl)) (hw _ (List.mem_of_getElem? (i := 35) rfl)) (by decide) (by decide)) qa_503 qc_503 (g := (mkF m 189 #[.val (.int x0), .val (.int x1), .val (.int x2), .val (.int x3), .val (.int x4), .val (.int (1 : Int32)), .val (.null), .val (.null), .val (.ref la_481), .val (.ref a_484), .val (.null), .val (.null), .val (.null), .val (.null)] [(.ref a_484)])) rfl (by rw [hml]; rfl) (Steps.refl _) (argsL := []) (rest := []) (lenOf pd0_2 rfl) rfl (by show 2 * 0 + _ ≤ _; exact Nat.le_of_eq rfl) (hb hby at_189) (fun _ _ => ⟨rfl, eq_502, (by decide : 3 + 0 ≤ _), (by decide : 54 + 0 ≤ _)⟩)
        dsimp only [Pt.U, Pt.locs, Pt.cells, Pt.slots] at X_503 l_503 y_503 z_503 st_503 hQ_503
        subst l_503 y_503 z_503
        refine own_tr st_503 ?_
        obtain ⟨rfl, Nq_503, eq_503⟩ := hQ_503
        have N_503 := Fr.app N_502 Nq_503
        show own_Go p e below _ T_503 (mkF m 192 #[.val (.int x0), .val (.int x1), .val (.int x2), .val (.int x3), .val (.int x4), .val (.int (1 : Int32)), .val (.null), .val (.null), .val (.ref la_481), .val (.ref a_484), .val (.null), .val (.null), .val (.null), .val (.null)] [(.null)])
        refine own_aload X_503 hx (hb hby at_192) (pc' := 194) rfl rfl rfl ?_
        refine own_acmpN X_503 hx rfl rfl (hb hby at_194) (XT.aa_ne_f rfl) (pc' := 197) rfl ?_
        refine own_iconst X_503 hx (1) (hb hby at_197) (pc' := 198) rfl rfl ?_
        refine own_goto X_503 hx (hb hby at_198) (pc' := 202) (by decide) (by decide) ?_
        refine own_retZW X_503 hS (by rw [eq_503]; exact K1_497) hx hlk Bd.returns (by simp) (hb hby at_202) (by decide) (by decide) ?_
        exact ⟨rfl, N_503⟩
set_option maxRecDepth 65536 in
set_option maxHeartbeats 40000000 in
theorem comes_1 {Post : Tables → Env → Array Value → State → Outcome → State → Prop} (hpost : ∀ tb e args s v u, (limb_1_1.after args s (.returned v) u = true ∧ limb_1_2.after args s (.returned v) u = true ∧ True) → ReturnedEndW s (.returned v) u (Jvm.fieldLocs frame_1_writes args s ++ Jvm.arrayLocs frame_1_arrays args s ++ Jvm.staticLocs frame_1_statics s) 32 2176 → Post tb e args s (.returned v) u) :
    ArmFor flags0 classFile x code maxLocals ret World_1 tables_1 room_1 Calls_1 rest_1 Pre_1 Post := by
  intro l hfl _ _ p e ha hc hk s m args below hf hA hF happ hP
  obtain ⟨hcalls, hrest, hpre⟩ := hP
  obtain ⟨-, -, -, hnamed, -, -, -, hat⟩ := (Spec.applies_iff hf).mp happ
  obtain ⟨hg, hn⟩ := and_e (Cond.before_iff.mp (show (Jvm.Cond.and given_1 narrow_1).before args s = true from hpre))
  obtain ⟨gc, gr0⟩ := and_e hg
  obtain ⟨ga0, gr1⟩ := and_e gr0
  obtain ⟨ga1, gr2⟩ := and_e gr1
  obtain ⟨ga2, gr3⟩ := and_e gr2
  obtain ⟨ga3, gr4⟩ := and_e gr3
  have ga4 := gr4
  obtain ⟨w0, w1, w2, w3, w4, rfl⟩ : ∃ w0 w1 w2 w3 w4 : Value, args = #[w0, w1, w2, w3, w4] := by
    have hs : args.size = 5 := by simpa [Cond.value, given_1] using gc
    obtain ⟨L⟩ := args
    match L, hs with
    | [w0, w1, w2, w3, w4], _ => exact ⟨w0, w1, w2, w3, w4, rfl⟩
  have hw := fun d (hd : d ∈ tables_1) => atoms_spec (ws := Jvm.Cond.code x code maxLocals ret :: tables_1) hat d (List.mem_cons_of_mem _ hd)
  have hfit : Fit s := fun {y c} hc i hi => by
    obtain ⟨ha, rfl⟩ := Array.getElem?_eq_some_iff.mp hc
    have q := List.all_eq_true.mp ((Array.all_eq_true_iff_forall_mem.mp hF) _ (Array.getElem_mem ha)) i (List.mem_range.mpr hi)
    simpa [Array.getElem?_eq_getElem hi] using q
  obtain ⟨i0, ei0⟩ := is_v ga0
  obtain rfl : w0 = (.int i0) := Option.some.inj ei0
  obtain ⟨i1, ei1⟩ := is_v ga1
  obtain rfl : w1 = (.int i1) := Option.some.inj ei1
  obtain ⟨i2, ei2⟩ := is_v ga2
  obtain rfl : w2 = (.int i2) := Option.some.inj ei2
  obtain ⟨i3, ei3⟩ := is_v ga3
  obtain rfl : w3 = (.int i3) := Option.some.inj ei3
  obtain ⟨i4, ei4⟩ := is_v ga4
  obtain rfl : w4 = (.int i4) := Option.some.inj ei4
  obtain ⟨hsets, hown0⟩ := atoms_of _ (rest_1_c_eq ▸ (show rest_1_c.before _ s = true from hrest))
  obtain ⟨cz, ecz⟩ := is_v (Cond.before_iff.mp (hsets _ (List.mem_of_getElem? (i := 1) rfl)))
  have Sz : Sta s s.heap "java/lang/String" "COMPACT_STRINGS" "Z" (.int cz) := Sta.start ecz (Or.inl (hsets _ (List.mem_of_getElem? (i := 0) rfl)))
  have Pz : ¬ (cz = (0 : Int32)) := gotF (Cond.eq_ints ecz (Term.int_eval (0))) (not_v (Cond.before_iff.mp (hsets _ (List.mem_of_getElem? (i := 2) rfl))))
  obtain ⟨n, o, h1, h2, h3, _, L, rfl, ⟨rfl, N⟩, hq⟩ := rm0 l s _ hw tables_1 i0 i1 i2 i3 i4 cz s.heap s.heap.size (Nat.le_refl _) (Old.start s) Sz Pz p e ha hc hk s m _ below hf ((Spec.applies_iff_loose hf).mp happ).1 ⟨rfl, State.Warmed39.refl s, rfl⟩ trivial
  refine ⟨n, _, h1, h2, h3, hpost _ _ _ _ _ _ ⟨Cond.after_iff.mpr rfl, Cond.after_iff.mpr (eq_i res_at (Term.int_eval (1)) rfl), trivial⟩ ⟨hq.1, hq.2.1, hq.2.2.1, (hq.2.2.2.sift fun y hy => Or.inr (N y hy)).mono (by decide) (by decide)⟩⟩
theorem main_1_1 : Claimed_1_1 := comes_1 fun _ _ _ _ _ _ h hF => ⟨h.1, hF⟩
theorem main_1_2 : Claimed_1_2 := comes_1 fun _ _ _ _ _ _ h hF => ⟨h.2.1, hF⟩
end Jvm.Pilot.@@N@@
namespace Jvm.Pilot.@@N@@
open Jvm Jvm.ClassFile Sem Op Lib Jvm.Free Jvm.Stand Jvm.Pilot.@@N@@.Jvm.D
/-! MADE BY PROGRAM (witnessworld.py) out of the Statement's table words and the real class files: 20 classes; the members and pool entries that the words name. The judged class is class 1, her method 1. -/
namespace start1
open Jvm.ClassFile
def u (s : String) : CpInfo := .utf8 (stringToUtf16 s)
/-- a pool by its gaps: so many unusable entries, then the entry; so many at the end -/
def gap : Nat → List CpInfo → List CpInfo
  | 0, r => r
  | n + 1, r => .unusable :: gap n r
def poolList (es : List (Nat × CpInfo)) (last : Nat) : List CpInfo := es.foldr (fun e r => gap e.1 (e.2 :: r)) (gap last [])
def pool (es : List (Nat × CpInfo)) (last : Nat) : Array CpInfo := ⟨poolList es last⟩
def fileOf (pool : Array CpInfo) (this : Nat) (attrs : Array Attribute := #[]) (ms : Array MethodInfo := #[]) (fl : Nat := 33) (sup : Nat := 0) (ifs : Array Nat := #[]) (fds : Array FieldInfo := #[]) : ClassFile where
  minorVersion := 0
  majorVersion := 65
  constantPool := pool
  accessFlags := fl
  thisClass := this
  superClass := sup
  interfaces := ifs
  fields := fds
  methods := ms
  attributes := attrs
def plain (name : String) (sup : Option ClassId) : Class where
  name := name
  kind := .ordinary
  loader := none
  accessFlags := 33
  super := sup
  interfaces := #[]
  cf := none
  fields := #[]
  methods := #[]
  instanceTypes := #[]
  staticTypes := #[]
  resolved := #[]
  callSites := []
  init := .initialized
  statics := none
  mirror := none

def pool0 : Array CpInfo := pool [(5, u "<init>"), (0, u "()V"), (1, .class_ 10), (1, u "java/lang/Object")] 113

def k0c0 : Code := { maxStack := 0, maxLocals := 1, code := object_method_1_code, exceptionTable := #[], attributes := #[] }
def k0m0 : Method := { name := "<init>", desc := "()V", sig := { parameters := [], returnType := none }, accessFlags := 1, code := some k0c0 }
/-- java/lang/Object -/
def k0 : Class := { plain "java/lang/Object" none with
  accessFlags := 33
  interfaces := #[]
  cf := some (fileOf pool0 8 #[] #[{ accessFlags := 1, nameIndex := 5, descriptorIndex := 6, attributes := #[] }] 33 0 #[] #[])
  fields := #[]
  methods := #[k0m0]
  instanceTypes := #[]
  staticTypes := #[]
  resolved := Array.replicate 124 none
  statics := none }

def pool1 : Array CpInfo := pool [(2, .class_ 4), (1, u "java/lang/Object"), (0, u "<init>"), (0, u "()V"), (0, .class_ 8), (0, u "java/lang/String"), (0, .methodref 7 10), (0, .nameAndType 5 11), (0, u "([C)V"), (0, .string 13), (0, u "parent-role"), (0, .string 15), (0, u "sub-role"), (0, .class_ 17), (0, u "com/example/muster/muster/role/RoleRelation"), (0, .methodref 16 19), (0, .nameAndType 5 20), (0, u "(Ljava/lang/String;Ljava/lang/String;ZLjava/lang/String;II)V"), (0, .methodref 16 22), (0, .nameAndType 23 24), (0, u "getChildId"), (0, u "()Ljava/lang/String;"), (0, .methodref 16 26), (0, .nameAndType 27 24), (0, u "getParentId"), (0, .methodref 16 29), (0, .nameAndType 30 24), (0, u "getRoleId"), (0, .methodref 16 32), (0, .nameAndType 33 24), (0, u "getNamedId"), (0, .class_ 35), (0, u "com/example/muster/muster/role/RoleRelationGetChildIdPinLaw"), (2, u "law"), (0, u "(IIIII)Z")] 3

def k1m0 : Method := { name := "<init>", desc := "()V", sig := { parameters := [], returnType := none }, accessFlags := 1, code := none }
def k1c1 : Code := { maxStack := 8, maxLocals := 14, code := code, exceptionTable := #[], attributes := #[] }
def k1m1 : Method := { name := "law", desc := "(IIIII)Z", sig := { parameters := [.int, .int, .int, .int, .int], returnType := some .boolean }, accessFlags := 9, code := some k1c1 }
/-- com/example/muster/muster/role/RoleRelationGetChildIdPinLaw -/
def k1 : Class := { plain "com/example/muster/muster/role/RoleRelationGetChildIdPinLaw" (some 0) with
  accessFlags := 49
  interfaces := #[]
  cf := some (fileOf pool1 34 #[] #[{ accessFlags := 1, nameIndex := 5, descriptorIndex := 6, attributes := #[] }, { accessFlags := 9, nameIndex := 38, descriptorIndex := 39, attributes := #[] }] 49 2 #[] #[])
  fields := #[]
  methods := #[k1m0, k1m1]
  instanceTypes := #[]
  staticTypes := #[]
  resolved := Array.replicate 43 none
  statics := none }

def pool2 : Array CpInfo := pool [(1, .class_ 2), (0, u "java/io/Serializable"), (0, .class_ 4), (0, u "java/lang/Object")] 2

/-- java/io/Serializable -/
def k2 : Class := { plain "java/io/Serializable" (some 0) with
  accessFlags := 1537
  interfaces := #[]
  cf := some (fileOf pool2 1 #[] #[] 1537 3 #[] #[])
  fields := #[]
  methods := #[]
  instanceTypes := #[]
  staticTypes := #[]
  resolved := Array.replicate 7 none
  statics := none }

def pool3 : Array CpInfo := pool [(1, .class_ 2), (0, u "java/lang/Comparable"), (0, .class_ 4), (0, u "java/lang/Object")] 7

/-- java/lang/Comparable -/
def k3 : Class := { plain "java/lang/Comparable" (some 0) with
  accessFlags := 1537
  interfaces := #[]
  cf := some (fileOf pool3 1 #[] #[] 1537 3 #[] #[])
  fields := #[]
  methods := #[]
  instanceTypes := #[]
  staticTypes := #[]
  resolved := Array.replicate 12 none
  statics := none }

def pool4 : Array CpInfo := pool [(2, .class_ 4), (1, u "java/lang/CharSequence"), (42, .class_ 48), (0, u "java/lang/CharSequence$1CodePointIterator"), (10, .class_ 60), (0, u "java/lang/CharSequence$1CharIterator"), (5, .class_ 67), (0, u "java/lang/Object")] 63

/-- java/lang/CharSequence -/
def k4 : Class := { plain "java/lang/CharSequence" (some 0) with
  accessFlags := 1537
  interfaces := #[]
  cf := some (fileOf pool4 2 #[.nestMembers #[47, 59]] #[] 1537 66 #[] #[])
  fields := #[]
  methods := #[]
  instanceTypes := #[]
  staticTypes := #[]
  resolved := Array.replicate 131 none
  statics := none }

def pool5 : Array CpInfo := pool [(1, .class_ 2), (0, u "java/lang/constant/Constable"), (0, .class_ 4), (0, u "java/lang/Object")] 6

/-- java/lang/constant/Constable -/
def k5 : Class := { plain "java/lang/constant/Constable" (some 0) with
  accessFlags := 1537
  interfaces := #[]
  cf := some (fileOf pool5 1 #[] #[] 1537 3 #[] #[])
  fields := #[]
  methods := #[]
  instanceTypes := #[]
  staticTypes := #[]
  resolved := Array.replicate 11 none
  statics := none }

def pool6 : Array CpInfo := pool [(1, .class_ 2), (0, u "java/lang/constant/ConstantDesc"), (0, .class_ 4), (0, u "java/lang/Object")] 32

/-- java/lang/constant/ConstantDesc -/
def k6 : Class := { plain "java/lang/constant/ConstantDesc" (some 0) with
  accessFlags := 1537
  interfaces := #[]
  cf := some (fileOf pool6 1 #[] #[] 1537 3 #[] #[])
  fields := #[]
  methods := #[]
  instanceTypes := #[]
  staticTypes := #[]
  resolved := Array.replicate 37 none
  statics := none }

def pool7 : Array CpInfo := pool [(1, .methodref 2 3), (0, .class_ 4), (0, .nameAndType 5 6), (0, u "java/lang/Object"), (0, u "<init>"), (0, u "()V"), (2, .fieldref 10 11), (0, .class_ 12), (0, .nameAndType 13 14), (0, u "java/lang/String"), (0, u "value"), (0, u "[B"), (0, .fieldref 10 16), (0, .nameAndType 17 18), (0, u "coder"), (0, u "B"), (2, u "hash"), (0, u "I"), (2, u "hashIsZero"), (0, u "Z"), (0, .methodref 10 28), (0, .nameAndType 5 29), (0, u "([CIILjava/lang/Void;)V"), (8, .fieldref 10 39), (0, .nameAndType 40 26), (0, u "COMPACT_STRINGS"), (1, .class_ 44), (1, u "java/lang/StringUTF16"), (0, u "compress"), (1, .methodref 42 48), (0, .nameAndType 49 50), (0, u "coderFromArrayLen"), (0, u "([BI)B"), (126, .methodref 42 178), (0, .nameAndType 45 179), (0, u "([CII)[B"), (395, .class_ 576), (0, u "java/lang/CharSequence"), (22, u "CASE_INSENSITIVE_ORDER"), (0, u "Ljava/util/Comparator;"), (409, u "([C)V"), (90, u "serialPersistentFields"), (0, u "[Ljava/io/ObjectStreamField;"), (0, .class_ 1104), (0, u "java/lang/String$CaseInsensitiveComparator"), (1, .class_ 1107), (0, u "java/io/Serializable"), (0, .class_ 1109), (0, u "java/lang/Comparable"), (0, .class_ 1111), (0, u "java/lang/constant/Constable"), (0, .class_ 1113), (0, u "java/lang/constant/ConstantDesc"), (2, u "serialVersionUID"), (0, u "J"), (3, u "REPL"), (0, u "C"), (2, u "LATIN1"), (1, u "UTF16")] 323

def k7m0 : Method := { name := "<init>", desc := "()V", sig := { parameters := [], returnType := none }, accessFlags := 1, code := none }
def k7c1 : Code := { maxStack := 5, maxLocals := 2, code := jdk_42_method_3_code, exceptionTable := #[], attributes := #[] }
def k7m1 : Method := { name := "<init>", desc := "([C)V", sig := { parameters := [(.array .char)], returnType := none }, accessFlags := 1, code := some k7c1 }
def k7c2 : Code := { maxStack := 4, maxLocals := 6, code := jdk_42_method_149_code, exceptionTable := #[], attributes := #[] }
def k7m2 : Method := { name := "<init>", desc := "([CIILjava/lang/Void;)V", sig := { parameters := [(.array .char), .int, .int, (.object "java/lang/Void")], returnType := none }, accessFlags := 2, code := some k7c2 }
/-- java/lang/String -/
def k7 : Class := { plain "java/lang/String" (some 0) with
  accessFlags := 49
  interfaces := #[2, 3, 4, 5, 6]
  cf := some (fileOf pool7 10 #[.nestMembers #[1103]] #[{ accessFlags := 1, nameIndex := 5, descriptorIndex := 6, attributes := #[] }, { accessFlags := 1, nameIndex := 5, descriptorIndex := 1010, attributes := #[] }, { accessFlags := 2, nameIndex := 5, descriptorIndex := 29, attributes := #[] }] 49 2 #[1106, 1108, 575, 1110, 1112] #[{ accessFlags := 18, nameIndex := 13, descriptorIndex := 14, attributes := #[] }, { accessFlags := 18, nameIndex := 17, descriptorIndex := 18, attributes := #[] }, { accessFlags := 2, nameIndex := 21, descriptorIndex := 22, attributes := #[] }, { accessFlags := 2, nameIndex := 25, descriptorIndex := 26, attributes := #[] }, { accessFlags := 26, nameIndex := 1116, descriptorIndex := 1117, attributes := #[] }, { accessFlags := 24, nameIndex := 40, descriptorIndex := 26, attributes := #[] }, { accessFlags := 26, nameIndex := 1101, descriptorIndex := 1102, attributes := #[] }, { accessFlags := 26, nameIndex := 1121, descriptorIndex := 1122, attributes := #[] }, { accessFlags := 25, nameIndex := 599, descriptorIndex := 600, attributes := #[] }, { accessFlags := 24, nameIndex := 1125, descriptorIndex := 18, attributes := #[] }, { accessFlags := 24, nameIndex := 1127, descriptorIndex := 18, attributes := #[] }])
  fields := #[{ name := "value", type := (.array .byte), accessFlags := 18, slot := 0, constantValue := 0 }, { name := "coder", type := .byte, accessFlags := 18, slot := 1, constantValue := 0 }, { name := "hash", type := .int, accessFlags := 2, slot := 2, constantValue := 0 }, { name := "hashIsZero", type := .boolean, accessFlags := 2, slot := 3, constantValue := 0 }, { name := "serialVersionUID", type := .long, accessFlags := 26, slot := 0, constantValue := 0 }, { name := "COMPACT_STRINGS", type := .boolean, accessFlags := 24, slot := 1, constantValue := 0 }, { name := "serialPersistentFields", type := (.array (.object "java/io/ObjectStreamField")), accessFlags := 26, slot := 2, constantValue := 0 }, { name := "REPL", type := .char, accessFlags := 26, slot := 3, constantValue := 0 }, { name := "CASE_INSENSITIVE_ORDER", type := (.object "java/util/Comparator"), accessFlags := 25, slot := 4, constantValue := 0 }, { name := "LATIN1", type := .byte, accessFlags := 24, slot := 5, constantValue := 0 }, { name := "UTF16", type := .byte, accessFlags := 24, slot := 6, constantValue := 0 }]
  methods := #[k7m0, k7m1, k7m2]
  instanceTypes := #[(.array .byte), .byte, .int, .boolean]
  staticTypes := #[.long, .boolean, (.array (.object "java/io/ObjectStreamField")), .char, (.object "java/util/Comparator"), .byte, .byte]
  resolved := Array.replicate 1451 none
  statics := some 0 }

def pool8 : Array CpInfo := pool [(6, .class_ 8), (1, u "java/lang/Object"), (0, u "<init>"), (0, u "()V"), (1, .class_ 14), (1, u "java/lang/StringUTF16"), (31, u "$assertionsDisabled"), (0, u "Z"), (13, u "HI_BYTE_SHIFT"), (0, u "I"), (2, u "LO_BYTE_SHIFT"), (49, .methodref 12 116), (0, .nameAndType 117 118), (0, u "compress"), (0, u "([CI[BII)I"), (3, u "([CII)[B"), (138, u "coderFromArrayLen"), (0, u "([BI)B"), (106, .class_ 371), (1, u "java/lang/StringUTF16$LinesSpliterator"), (58, u "MAX_LENGTH"), (196, .class_ 628), (0, u "java/lang/StringUTF16$CodePointsSpliterator"), (0, .class_ 630), (0, u "java/lang/StringUTF16$CharsSpliterator")] 4

def k8m0 : Method := { name := "<init>", desc := "()V", sig := { parameters := [], returnType := none }, accessFlags := 0, code := none }
def k8c1 : Code := { maxStack := 2, maxLocals := 2, code := jdk_52_method_15_code, exceptionTable := #[], attributes := #[] }
def k8m1 : Method := { name := "coderFromArrayLen", desc := "([BI)B", sig := { parameters := [(.array .byte), .int], returnType := some .byte }, accessFlags := 8, code := some k8c1 }
def k8c2 : Code := { maxStack := 5, maxLocals := 6, code := jdk_52_method_16_code, exceptionTable := #[], attributes := #[] }
def k8m2 : Method := { name := "compress", desc := "([CII)[B", sig := { parameters := [(.array .char), .int, .int], returnType := some (.array .byte) }, accessFlags := 9, code := some k8c2 }
def k8c3 : Code := { maxStack := 3, maxLocals := 7, code := jdk_52_method_21_code, exceptionTable := #[], attributes := #[] }
def k8m3 : Method := { name := "compress", desc := "([CI[BII)I", sig := { parameters := [(.array .char), .int, (.array .byte), .int, .int], returnType := some .int }, accessFlags := 9, code := some k8c3 }
/-- java/lang/StringUTF16 -/
def k8 : Class := { plain "java/lang/StringUTF16" (some 0) with
  accessFlags := 48
  interfaces := #[]
  cf := some (fileOf pool8 12 #[.nestMembers #[627, 629, 369]] #[{ accessFlags := 0, nameIndex := 9, descriptorIndex := 10, attributes := #[] }, { accessFlags := 8, nameIndex := 261, descriptorIndex := 262, attributes := #[] }, { accessFlags := 9, nameIndex := 117, descriptorIndex := 122, attributes := #[] }, { accessFlags := 9, nameIndex := 117, descriptorIndex := 118, attributes := #[] }] 48 6 #[] #[{ accessFlags := 26, nameIndex := 61, descriptorIndex := 62, attributes := #[] }, { accessFlags := 26, nameIndex := 65, descriptorIndex := 62, attributes := #[] }, { accessFlags := 24, nameIndex := 430, descriptorIndex := 62, attributes := #[] }, { accessFlags := 4120, nameIndex := 46, descriptorIndex := 47, attributes := #[] }])
  fields := #[{ name := "HI_BYTE_SHIFT", type := .int, accessFlags := 26, slot := 0, constantValue := 0 }, { name := "LO_BYTE_SHIFT", type := .int, accessFlags := 26, slot := 1, constantValue := 0 }, { name := "MAX_LENGTH", type := .int, accessFlags := 24, slot := 2, constantValue := 0 }, { name := "$assertionsDisabled", type := .boolean, accessFlags := 4120, slot := 3, constantValue := 0 }]
  methods := #[k8m0, k8m1, k8m2, k8m3]
  instanceTypes := #[]
  staticTypes := #[.int, .int, .int, .boolean]
  resolved := Array.replicate 635 none
  statics := none }

def pool9 : Array CpInfo := pool [(1, .methodref 2 3), (0, .class_ 4), (0, .nameAndType 5 6), (0, u "java/lang/Object"), (0, u "<init>"), (0, u "()V"), (0, .fieldref 8 9), (0, .class_ 10), (0, .nameAndType 11 12), (0, u "com/example/muster/muster/role/RoleRelation"), (0, u "roleId"), (0, u "Ljava/lang/String;"), (0, .fieldref 8 14), (0, .nameAndType 15 12), (0, u "namedId"), (0, .fieldref 8 17), (0, .nameAndType 18 19), (0, u "namesParent"), (0, u "Z"), (0, .fieldref 8 21), (0, .nameAndType 22 12), (0, u "element"), (0, .fieldref 8 24), (0, .nameAndType 25 26), (0, u "line"), (0, u "I"), (0, .fieldref 8 28), (0, .nameAndType 29 26), (0, u "column"), (6, u "(Ljava/lang/String;Ljava/lang/String;ZLjava/lang/String;II)V"), (2, u "getRoleId"), (0, u "()Ljava/lang/String;"), (0, u "getNamedId"), (1, u "getParentId"), (1, u "getChildId")] 7

def k9c0 : Code := { maxStack := 2, maxLocals := 7, code := prog_21_method_1_code, exceptionTable := #[], attributes := #[] }
def k9m0 : Method := { name := "<init>", desc := "(Ljava/lang/String;Ljava/lang/String;ZLjava/lang/String;II)V", sig := { parameters := [(.object "java/lang/String"), (.object "java/lang/String"), .boolean, (.object "java/lang/String"), .int, .int], returnType := none }, accessFlags := 0, code := some k9c0 }
def k9c1 : Code := { maxStack := 1, maxLocals := 1, code := prog_21_method_2_code, exceptionTable := #[], attributes := #[] }
def k9m1 : Method := { name := "getRoleId", desc := "()Ljava/lang/String;", sig := { parameters := [], returnType := some (.object "java/lang/String") }, accessFlags := 0, code := some k9c1 }
def k9c2 : Code := { maxStack := 1, maxLocals := 1, code := prog_21_method_3_code, exceptionTable := #[], attributes := #[] }
def k9m2 : Method := { name := "getNamedId", desc := "()Ljava/lang/String;", sig := { parameters := [], returnType := some (.object "java/lang/String") }, accessFlags := 0, code := some k9c2 }
def k9c3 : Code := { maxStack := 1, maxLocals := 1, code := prog_21_method_5_code, exceptionTable := #[], attributes := #[] }
def k9m3 : Method := { name := "getParentId", desc := "()Ljava/lang/String;", sig := { parameters := [], returnType := some (.object "java/lang/String") }, accessFlags := 0, code := some k9c3 }
def k9c4 : Code := { maxStack := 1, maxLocals := 1, code := prog_21_method_6_code, exceptionTable := #[], attributes := #[] }
def k9m4 : Method := { name := "getChildId", desc := "()Ljava/lang/String;", sig := { parameters := [], returnType := some (.object "java/lang/String") }, accessFlags := 0, code := some k9c4 }
/-- com/example/muster/muster/role/RoleRelation -/
def k9 : Class := { plain "com/example/muster/muster/role/RoleRelation" (some 0) with
  accessFlags := 32
  interfaces := #[]
  cf := some (fileOf pool9 8 #[] #[{ accessFlags := 0, nameIndex := 5, descriptorIndex := 36, attributes := #[] }, { accessFlags := 0, nameIndex := 39, descriptorIndex := 40, attributes := #[] }, { accessFlags := 0, nameIndex := 41, descriptorIndex := 40, attributes := #[] }, { accessFlags := 0, nameIndex := 43, descriptorIndex := 40, attributes := #[] }, { accessFlags := 0, nameIndex := 45, descriptorIndex := 40, attributes := #[] }] 32 2 #[] #[{ accessFlags := 18, nameIndex := 11, descriptorIndex := 12, attributes := #[] }, { accessFlags := 18, nameIndex := 15, descriptorIndex := 12, attributes := #[] }, { accessFlags := 18, nameIndex := 18, descriptorIndex := 19, attributes := #[] }, { accessFlags := 18, nameIndex := 22, descriptorIndex := 12, attributes := #[] }, { accessFlags := 18, nameIndex := 25, descriptorIndex := 26, attributes := #[] }, { accessFlags := 18, nameIndex := 29, descriptorIndex := 26, attributes := #[] }])
  fields := #[{ name := "roleId", type := (.object "java/lang/String"), accessFlags := 18, slot := 0, constantValue := 0 }, { name := "namedId", type := (.object "java/lang/String"), accessFlags := 18, slot := 1, constantValue := 0 }, { name := "namesParent", type := .boolean, accessFlags := 18, slot := 2, constantValue := 0 }, { name := "element", type := (.object "java/lang/String"), accessFlags := 18, slot := 3, constantValue := 0 }, { name := "line", type := .int, accessFlags := 18, slot := 4, constantValue := 0 }, { name := "column", type := .int, accessFlags := 18, slot := 5, constantValue := 0 }]
  methods := #[k9m0, k9m1, k9m2, k9m3, k9m4]
  instanceTypes := #[(.object "java/lang/String"), (.object "java/lang/String"), .boolean, (.object "java/lang/String"), .int, .int]
  staticTypes := #[]
  resolved := Array.replicate 53 none
  statics := none }

def pool10 : Array CpInfo := pool [(4, .class_ 6), (1, u "java/lang/Object"), (0, u "<init>"), (0, u "()V"), (5, .class_ 16), (1, u "java/lang/StringLatin1"), (104, u "$assertionsDisabled"), (0, u "Z"), (98, .class_ 223), (1, u "java/lang/StringLatin1$LinesSpliterator"), (166, .class_ 391), (0, u "java/lang/StringLatin1$CharsSpliterator")] 3

def k10m0 : Method := { name := "<init>", desc := "()V", sig := { parameters := [], returnType := none }, accessFlags := 0, code := none }
/-- java/lang/StringLatin1 -/
def k10 : Class := { plain "java/lang/StringLatin1" (some 0) with
  accessFlags := 48
  interfaces := #[]
  cf := some (fileOf pool10 14 #[.nestMembers #[390, 221]] #[{ accessFlags := 0, nameIndex := 7, descriptorIndex := 8, attributes := #[] }] 48 4 #[] #[{ accessFlags := 4120, nameIndex := 121, descriptorIndex := 122, attributes := #[] }])
  fields := #[{ name := "$assertionsDisabled", type := .boolean, accessFlags := 4120, slot := 0, constantValue := 0 }]
  methods := #[k10m0]
  instanceTypes := #[]
  staticTypes := #[.boolean]
  resolved := Array.replicate 395 none
  statics := none }

def pool11 : Array CpInfo := pool [(2, .class_ 4), (1, u "java/lang/Object"), (0, u "<init>"), (0, u "()V"), (17, .class_ 26), (1, u "jdk/internal/util/Preconditions"), (28, .class_ 56), (0, u "jdk/internal/util/Preconditions$4"), (57, .class_ 115), (0, u "jdk/internal/util/Preconditions$1"), (7, u "SIOOBE_FORMATTER"), (0, u "Ljava/util/function/BiFunction;"), (0, .class_ 126), (0, u "jdk/internal/util/Preconditions$2"), (3, u "AIOOBE_FORMATTER"), (0, .class_ 132), (0, u "jdk/internal/util/Preconditions$3"), (3, u "IOOBE_FORMATTER")] 57

def k11m0 : Method := { name := "<init>", desc := "()V", sig := { parameters := [], returnType := none }, accessFlags := 1, code := none }
/-- jdk/internal/util/Preconditions -/
def k11 : Class := { plain "jdk/internal/util/Preconditions" (some 0) with
  accessFlags := 33
  interfaces := #[]
  cf := some (fileOf pool11 24 #[.nestMembers #[55, 131, 125, 114]] #[{ accessFlags := 1, nameIndex := 5, descriptorIndex := 6, attributes := #[] }] 33 2 #[] #[{ accessFlags := 25, nameIndex := 123, descriptorIndex := 124, attributes := #[] }, { accessFlags := 25, nameIndex := 130, descriptorIndex := 124, attributes := #[] }, { accessFlags := 25, nameIndex := 136, descriptorIndex := 124, attributes := #[] }])
  fields := #[{ name := "SIOOBE_FORMATTER", type := (.object "java/util/function/BiFunction"), accessFlags := 25, slot := 0, constantValue := 0 }, { name := "AIOOBE_FORMATTER", type := (.object "java/util/function/BiFunction"), accessFlags := 25, slot := 1, constantValue := 0 }, { name := "IOOBE_FORMATTER", type := (.object "java/util/function/BiFunction"), accessFlags := 25, slot := 2, constantValue := 0 }]
  methods := #[k11m0]
  instanceTypes := #[]
  staticTypes := #[(.object "java/util/function/BiFunction"), (.object "java/util/function/BiFunction"), (.object "java/util/function/BiFunction")]
  resolved := Array.replicate 194 none
  statics := some 1 }

def pool12 : Array CpInfo := pool [(9, u "<init>"), (6, .class_ 18), (1, u "java/lang/Object"), (0, u "()V"), (1, .class_ 23), (1, u "jdk/internal/util/ArraysSupport"), (0, u "LOG2_ARRAY_LONG_INDEX_SCALE"), (0, u "I"), (2, u "U"), (0, u "Ljdk/internal/misc/Unsafe;"), (8, u "BIG_ENDIAN"), (0, u "Z"), (8, u "LOG2_BYTE_BIT_SIZE"), (4, u "LOG2_ARRAY_INT_INDEX_SCALE"), (54, u "JLA"), (0, u "Ljdk/internal/access/JavaLangAccess;"), (11, u "LOG2_ARRAY_BOOLEAN_INDEX_SCALE"), (9, u "LOG2_ARRAY_BYTE_INDEX_SCALE"), (5, u "LOG2_ARRAY_CHAR_INDEX_SCALE"), (5, u "LOG2_ARRAY_SHORT_INDEX_SCALE"), (18, u "LOG2_ARRAY_FLOAT_INDEX_SCALE"), (24, u "LOG2_ARRAY_DOUBLE_INDEX_SCALE"), (89, u "T_BOOLEAN"), (2, u "T_CHAR"), (1, u "T_FLOAT"), (1, u "T_DOUBLE"), (1, u "T_BYTE"), (1, u "T_SHORT"), (1, u "T_INT"), (1, u "T_LONG"), (1, u "SOFT_MAX_ARRAY_LENGTH")] 83

def k12m0 : Method := { name := "<init>", desc := "()V", sig := { parameters := [], returnType := none }, accessFlags := 2, code := none }
/-- jdk/internal/util/ArraysSupport -/
def k12 : Class := { plain "jdk/internal/util/ArraysSupport" (some 0) with
  accessFlags := 33
  interfaces := #[]
  cf := some (fileOf pool12 21 #[] #[{ accessFlags := 2, nameIndex := 9, descriptorIndex := 19, attributes := #[] }] 33 16 #[] #[{ accessFlags := 24, nameIndex := 28, descriptorIndex := 29, attributes := #[] }, { accessFlags := 26, nameIndex := 38, descriptorIndex := 39, attributes := #[] }, { accessFlags := 25, nameIndex := 121, descriptorIndex := 25, attributes := #[] }, { accessFlags := 25, nameIndex := 131, descriptorIndex := 25, attributes := #[] }, { accessFlags := 25, nameIndex := 137, descriptorIndex := 25, attributes := #[] }, { accessFlags := 25, nameIndex := 143, descriptorIndex := 25, attributes := #[] }, { accessFlags := 25, nameIndex := 53, descriptorIndex := 25, attributes := #[] }, { accessFlags := 25, nameIndex := 24, descriptorIndex := 25, attributes := #[] }, { accessFlags := 25, nameIndex := 162, descriptorIndex := 25, attributes := #[] }, { accessFlags := 25, nameIndex := 187, descriptorIndex := 25, attributes := #[] }, { accessFlags := 26, nameIndex := 48, descriptorIndex := 25, attributes := #[] }, { accessFlags := 25, nameIndex := 277, descriptorIndex := 25, attributes := #[] }, { accessFlags := 25, nameIndex := 280, descriptorIndex := 25, attributes := #[] }, { accessFlags := 25, nameIndex := 282, descriptorIndex := 25, attributes := #[] }, { accessFlags := 25, nameIndex := 284, descriptorIndex := 25, attributes := #[] }, { accessFlags := 25, nameIndex := 286, descriptorIndex := 25, attributes := #[] }, { accessFlags := 25, nameIndex := 288, descriptorIndex := 25, attributes := #[] }, { accessFlags := 25, nameIndex := 290, descriptorIndex := 25, attributes := #[] }, { accessFlags := 25, nameIndex := 292, descriptorIndex := 25, attributes := #[] }, { accessFlags := 26, nameIndex := 108, descriptorIndex := 109, attributes := #[] }, { accessFlags := 25, nameIndex := 294, descriptorIndex := 25, attributes := #[] }])
  fields := #[{ name := "U", type := (.object "jdk/internal/misc/Unsafe"), accessFlags := 24, slot := 0, constantValue := 0 }, { name := "BIG_ENDIAN", type := .boolean, accessFlags := 26, slot := 1, constantValue := 0 }, { name := "LOG2_ARRAY_BOOLEAN_INDEX_SCALE", type := .int, accessFlags := 25, slot := 2, constantValue := 0 }, { name := "LOG2_ARRAY_BYTE_INDEX_SCALE", type := .int, accessFlags := 25, slot := 3, constantValue := 0 }, { name := "LOG2_ARRAY_CHAR_INDEX_SCALE", type := .int, accessFlags := 25, slot := 4, constantValue := 0 }, { name := "LOG2_ARRAY_SHORT_INDEX_SCALE", type := .int, accessFlags := 25, slot := 5, constantValue := 0 }, { name := "LOG2_ARRAY_INT_INDEX_SCALE", type := .int, accessFlags := 25, slot := 6, constantValue := 0 }, { name := "LOG2_ARRAY_LONG_INDEX_SCALE", type := .int, accessFlags := 25, slot := 7, constantValue := 0 }, { name := "LOG2_ARRAY_FLOAT_INDEX_SCALE", type := .int, accessFlags := 25, slot := 8, constantValue := 0 }, { name := "LOG2_ARRAY_DOUBLE_INDEX_SCALE", type := .int, accessFlags := 25, slot := 9, constantValue := 0 }, { name := "LOG2_BYTE_BIT_SIZE", type := .int, accessFlags := 26, slot := 10, constantValue := 0 }, { name := "T_BOOLEAN", type := .int, accessFlags := 25, slot := 11, constantValue := 0 }, { name := "T_CHAR", type := .int, accessFlags := 25, slot := 12, constantValue := 0 }, { name := "T_FLOAT", type := .int, accessFlags := 25, slot := 13, constantValue := 0 }, { name := "T_DOUBLE", type := .int, accessFlags := 25, slot := 14, constantValue := 0 }, { name := "T_BYTE", type := .int, accessFlags := 25, slot := 15, constantValue := 0 }, { name := "T_SHORT", type := .int, accessFlags := 25, slot := 16, constantValue := 0 }, { name := "T_INT", type := .int, accessFlags := 25, slot := 17, constantValue := 0 }, { name := "T_LONG", type := .int, accessFlags := 25, slot := 18, constantValue := 0 }, { name := "JLA", type := (.object "jdk/internal/access/JavaLangAccess"), accessFlags := 26, slot := 19, constantValue := 0 }, { name := "SOFT_MAX_ARRAY_LENGTH", type := .int, accessFlags := 25, slot := 20, constantValue := 0 }]
  methods := #[k12m0]
  instanceTypes := #[]
  staticTypes := #[(.object "jdk/internal/misc/Unsafe"), .boolean, .int, .int, .int, .int, .int, .int, .int, .int, .int, .int, .int, .int, .int, .int, .int, .int, .int, (.object "jdk/internal/access/JavaLangAccess"), .int]
  resolved := Array.replicate 378 none
  statics := none }

def pool13 : Array CpInfo := pool [(1, u "java/lang/Cloneable"), (0, .class_ 1), (0, u "java/lang/Object"), (0, .class_ 3)] 3

/-- java/lang/Cloneable -/
def k13 : Class := { plain "java/lang/Cloneable" (some 0) with
  accessFlags := 1537
  interfaces := #[]
  cf := some (fileOf pool13 2 #[] #[] 1537 4 #[] #[])
  fields := #[]
  methods := #[]
  instanceTypes := #[]
  staticTypes := #[]
  resolved := Array.replicate 8 none
  statics := none }

/-- the primitive byte -/
def k14 : Class := { plain "byte" none with kind := .primitive 'B', accessFlags := 0x411 }
/-- [B -/
def k15 : Class := { plain "[B" (some 0) with kind := .array 14 .byte, interfaces := #[13, 2], accessFlags := 1041 }

/-- the primitive char -/
def k16 : Class := { plain "char" none with kind := .primitive 'C', accessFlags := 0x411 }
/-- [C -/
def k17 : Class := { plain "[C" (some 0) with kind := .array 16 .char, interfaces := #[13, 2], accessFlags := 1041 }

/-- the primitive int -/
def k18 : Class := { plain "int" none with kind := .primitive 'I', accessFlags := 0x411 }
/-- [I -/
def k19 : Class := { plain "[I" (some 0) with kind := .array 18 .int, interfaces := #[13, 2], accessFlags := 1041 }

def heap : Heap := #[{ cls := 7, slots := #[.long 0, .int 1, .null, .int 0, .null, .int 0, .int 0], vm := .statics 7 },
  { cls := 11, slots := #[.null, .null, .null], vm := .statics 11 }]
def classes : Array Class := #[k0, k1, k2, k3, k4, k5, k6, k7, k8, k9, k10, k11, k12, k13, k14, k15, k16, k17, k18, k19]
def interned : List (Array UInt16 × Addr) := []
def slotsUsed : Nat := 10
def theMethod : MethodId := ⟨1, 1⟩
def args0 : Array Value := #[.int 5, .int 3, .int 7, .int 1, .int 2]
def aboutOver (below : List Frame) : State where
  vm := { classes := classes, interned := interned.toArray }
  heap := heap
  slotsUsed := slotsUsed
  threads := #[{ frames := .invoking theMethod args0 :: below }]
def below0 : List Frame := [.native { method := ⟨0, 0⟩, args := #[] }]
def about1 : State := aboutOver below0
def p0 : Program := .bare "" "" ""
def e0 : Env := launch0.env 0 0 0
theorem w_frames : about1.frames = Frame.invoking theMethod args0 :: below0 := rfl
set_option maxRecDepth 65536 in
theorem w_args : argsFit about1.vm theMethod args0 = true := by decide +kernel
set_option maxRecDepth 65536 in
theorem w_heap : heapFits about1 = true := by decide +kernel
set_option maxRecDepth 65536 in
theorem w_runnable : about1.curStatus? = some .runnable := by decide +kernel
set_option maxRecDepth 65536 in
theorem w_alone : about1.alone = true := by decide +kernel
set_option maxRecDepth 65536 in
theorem w_named : about1.methodNamed? x = some theMethod := by decide +kernel
set_option maxRecDepth 65536 in
theorem w_hears : about1.hears theMethod below0 = true := by decide +kernel
set_option maxRecDepth 65536 in
theorem w_ripe : about1.ripe theMethod args0 below0 = true := by decide +kernel
theorem w_running : about1.status = .running := rfl
set_option maxRecDepth 65536 in
theorem w_room : about1.hasRoom e0.platform room_1 = true :=
  launch0.hasRoom_least _ room_1 (by decide +kernel) (by decide +kernel) (by decide +kernel) (by decide +kernel) (by decide +kernel) (by decide +kernel)
theorem allAtoms_all (ts : List Jvm.Cond) (a : Array Jvm.Value) (st : Jvm.State) : (allAtoms ts).before a st = ts.all (fun c => c.before a st) := by
  induction ts with
  | nil => rfl
  | cons c t ih =>
    show (Jvm.Cond.and c (allAtoms t)).before a st = _
    rw [Jvm.Cond.before_and, ih, List.all_cons]
def words1 : List Jvm.Cond := Jvm.Cond.code x code maxLocals ret :: tables_1
/-- a 'code' word, met by the world's own term for the bytes: nothing is compared byte by byte -/
theorem code_word {y : MethodName} {bytes : ByteArray} {mx : Nat} {rt : Option FieldType} {a : Array Value} {s : State} {m : MethodId} {meth : Method} {c : Code} (h1 : s.methodNamed? y = some m) (h2 : s.vm.method? m = some meth) (h3 : meth.code = some c) (h4 : c.code = bytes)
    (h5 : (c.maxLocals == mx && c.exceptionTable.isEmpty && decide (c.maxStack ≤ mostOperands) && decide (meth.sig.returnType = rt) && !meth.locks && decide (parseMethodDescriptor y.desc = some meth.sig)) = true) : (Jvm.Cond.code y bytes mx rt).before a s = true := by
  simp only [Bool.and_eq_true, beq_iff_eq, Bool.not_eq_true', decide_eq_true_eq] at h5
  obtain ⟨⟨⟨⟨⟨g1, g2⟩, g3⟩, g4⟩, g5⟩, g6⟩ := h5
  simp [Cond.before, Cond.holds, Cond.value, h1, h2, h3, h4, g1, g2, g3, g4, g5, g6]
def isCode : Jvm.Cond → Bool
  | .code _ _ _ _ => true
  | _ => false
theorem all_split {L : List Jvm.Cond} {P : Jvm.Cond → Bool} (h1 : L.all (fun c => isCode c || P c) = true) (h2 : ∀ c ∈ L.filter isCode, P c = true) : L.all P = true := by
  refine List.all_eq_true.mpr fun c hc => ?_
  have h := List.all_eq_true.mp h1 c hc
  rcases Bool.eq_false_or_eq_true (isCode c) with hi | hi
  · exact h2 c (List.mem_filter.mpr ⟨hc, hi⟩)
  · simpa [hi] using h
set_option maxRecDepth 65536 in
theorem w_c0 : (Jvm.Cond.code x code maxLocals ret).before args0 about1 = true := code_word (m := ⟨1, 1⟩) (meth := k1m1) (c := k1c1) (by decide +kernel) rfl rfl rfl (by decide +kernel)
set_option maxRecDepth 65536 in
theorem w_c1 : (Jvm.Cond.code ({ cls := "java/lang/String", name := "<init>", desc := "([C)V" } : Jvm.MethodName) jdk_42_method_3_code (2 : Nat) (Option.none : Option Jvm.ClassFile.FieldType)).before args0 about1 = true := code_word (m := ⟨7, 1⟩) (meth := k7m1) (c := k7c1) (by decide +kernel) rfl rfl rfl (by decide +kernel)
set_option maxRecDepth 65536 in
theorem w_c2 : (Jvm.Cond.code ({ cls := "java/lang/String", name := "<init>", desc := "([CIILjava/lang/Void;)V" } : Jvm.MethodName) jdk_42_method_149_code (6 : Nat) (Option.none : Option Jvm.ClassFile.FieldType)).before args0 about1 = true := code_word (m := ⟨7, 2⟩) (meth := k7m2) (c := k7c2) (by decide +kernel) rfl rfl rfl (by decide +kernel)
set_option maxRecDepth 65536 in
theorem w_c3 : (Jvm.Cond.code ({ cls := "java/lang/Object", name := "<init>", desc := "()V" } : Jvm.MethodName) object_method_1_code (1 : Nat) (Option.none : Option Jvm.ClassFile.FieldType)).before args0 about1 = true := code_word (m := ⟨0, 0⟩) (meth := k0m0) (c := k0c0) (by decide +kernel) rfl rfl rfl (by decide +kernel)
set_option maxRecDepth 65536 in
theorem w_c4 : (Jvm.Cond.code ({ cls := "java/lang/StringUTF16", name := "compress", desc := "([CII)[B" } : Jvm.MethodName) jdk_52_method_16_code (6 : Nat) (Option.some (Jvm.ClassFile.FieldType.array Jvm.ClassFile.FieldType.byte))).before args0 about1 = true := code_word (m := ⟨8, 2⟩) (meth := k8m2) (c := k8c2) (by decide +kernel) rfl rfl rfl (by decide +kernel)
set_option maxRecDepth 65536 in
theorem w_c5 : (Jvm.Cond.code ({ cls := "java/lang/StringUTF16", name := "compress", desc := "([CI[BII)I" } : Jvm.MethodName) jdk_52_method_21_code (7 : Nat) (Option.some Jvm.ClassFile.FieldType.int)).before args0 about1 = true := code_word (m := ⟨8, 3⟩) (meth := k8m3) (c := k8c3) (by decide +kernel) rfl rfl rfl (by decide +kernel)
set_option maxRecDepth 65536 in
theorem w_c6 : (Jvm.Cond.code ({ cls := "java/lang/StringUTF16", name := "coderFromArrayLen", desc := "([BI)B" } : Jvm.MethodName) jdk_52_method_15_code (2 : Nat) (Option.some Jvm.ClassFile.FieldType.byte)).before args0 about1 = true := code_word (m := ⟨8, 1⟩) (meth := k8m1) (c := k8c1) (by decide +kernel) rfl rfl rfl (by decide +kernel)
set_option maxRecDepth 65536 in
theorem w_c7 : (Jvm.Cond.code ({ cls := "com/example/muster/muster/role/RoleRelation", name := "<init>", desc := "(Ljava/lang/String;Ljava/lang/String;ZLjava/lang/String;II)V" } : Jvm.MethodName) prog_21_method_1_code (7 : Nat) (Option.none : Option Jvm.ClassFile.FieldType)).before args0 about1 = true := code_word (m := ⟨9, 0⟩) (meth := k9m0) (c := k9c0) (by decide +kernel) rfl rfl rfl (by decide +kernel)
set_option maxRecDepth 65536 in
theorem w_c8 : (Jvm.Cond.code ({ cls := "com/example/muster/muster/role/RoleRelation", name := "getChildId", desc := "()Ljava/lang/String;" } : Jvm.MethodName) prog_21_method_6_code (1 : Nat) (Option.some (Jvm.ClassFile.FieldType.object "java/lang/String"))).before args0 about1 = true := code_word (m := ⟨9, 4⟩) (meth := k9m4) (c := k9c4) (by decide +kernel) rfl rfl rfl (by decide +kernel)
set_option maxRecDepth 65536 in
theorem w_c9 : (Jvm.Cond.code ({ cls := "com/example/muster/muster/role/RoleRelation", name := "getParentId", desc := "()Ljava/lang/String;" } : Jvm.MethodName) prog_21_method_5_code (1 : Nat) (Option.some (Jvm.ClassFile.FieldType.object "java/lang/String"))).before args0 about1 = true := code_word (m := ⟨9, 3⟩) (meth := k9m3) (c := k9c3) (by decide +kernel) rfl rfl rfl (by decide +kernel)
set_option maxRecDepth 65536 in
theorem w_c10 : (Jvm.Cond.code ({ cls := "com/example/muster/muster/role/RoleRelation", name := "getRoleId", desc := "()Ljava/lang/String;" } : Jvm.MethodName) prog_21_method_2_code (1 : Nat) (Option.some (Jvm.ClassFile.FieldType.object "java/lang/String"))).before args0 about1 = true := code_word (m := ⟨9, 1⟩) (meth := k9m1) (c := k9c1) (by decide +kernel) rfl rfl rfl (by decide +kernel)
set_option maxRecDepth 65536 in
theorem w_c11 : (Jvm.Cond.code ({ cls := "com/example/muster/muster/role/RoleRelation", name := "getNamedId", desc := "()Ljava/lang/String;" } : Jvm.MethodName) prog_21_method_3_code (1 : Nat) (Option.some (Jvm.ClassFile.FieldType.object "java/lang/String"))).before args0 about1 = true := code_word (m := ⟨9, 2⟩) (meth := k9m2) (c := k9c2) (by decide +kernel) rfl rfl rfl (by decide +kernel)
def codes1 : List Jvm.Cond := [Jvm.Cond.code x code maxLocals ret, Jvm.Cond.code ({ cls := "java/lang/String", name := "<init>", desc := "([C)V" } : Jvm.MethodName) jdk_42_method_3_code (2 : Nat) (Option.none : Option Jvm.ClassFile.FieldType), Jvm.Cond.code ({ cls := "java/lang/String", name := "<init>", desc := "([CIILjava/lang/Void;)V" } : Jvm.MethodName) jdk_42_method_149_code (6 : Nat) (Option.none : Option Jvm.ClassFile.FieldType), Jvm.Cond.code ({ cls := "java/lang/Object", name := "<init>", desc := "()V" } : Jvm.MethodName) object_method_1_code (1 : Nat) (Option.none : Option Jvm.ClassFile.FieldType), Jvm.Cond.code ({ cls := "java/lang/StringUTF16", name := "compress", desc := "([CII)[B" } : Jvm.MethodName) jdk_52_method_16_code (6 : Nat) (Option.some (Jvm.ClassFile.FieldType.array Jvm.ClassFile.FieldType.byte)), Jvm.Cond.code ({ cls := "java/lang/StringUTF16", name := "compress", desc := "([CI[BII)I" } : Jvm.MethodName) jdk_52_method_21_code (7 : Nat) (Option.some Jvm.ClassFile.FieldType.int), Jvm.Cond.code ({ cls := "java/lang/StringUTF16", name := "coderFromArrayLen", desc := "([BI)B" } : Jvm.MethodName) jdk_52_method_15_code (2 : Nat) (Option.some Jvm.ClassFile.FieldType.byte), Jvm.Cond.code ({ cls := "com/example/muster/muster/role/RoleRelation", name := "<init>", desc := "(Ljava/lang/String;Ljava/lang/String;ZLjava/lang/String;II)V" } : Jvm.MethodName) prog_21_method_1_code (7 : Nat) (Option.none : Option Jvm.ClassFile.FieldType), Jvm.Cond.code ({ cls := "com/example/muster/muster/role/RoleRelation", name := "getChildId", desc := "()Ljava/lang/String;" } : Jvm.MethodName) prog_21_method_6_code (1 : Nat) (Option.some (Jvm.ClassFile.FieldType.object "java/lang/String")), Jvm.Cond.code ({ cls := "com/example/muster/muster/role/RoleRelation", name := "getParentId", desc := "()Ljava/lang/String;" } : Jvm.MethodName) prog_21_method_5_code (1 : Nat) (Option.some (Jvm.ClassFile.FieldType.object "java/lang/String")), Jvm.Cond.code ({ cls := "com/example/muster/muster/role/RoleRelation", name := "getRoleId", desc := "()Ljava/lang/String;" } : Jvm.MethodName) prog_21_method_2_code (1 : Nat) (Option.some (Jvm.ClassFile.FieldType.object "java/lang/String")), Jvm.Cond.code ({ cls := "com/example/muster/muster/role/RoleRelation", name := "getNamedId", desc := "()Ljava/lang/String;" } : Jvm.MethodName) prog_21_method_3_code (1 : Nat) (Option.some (Jvm.ClassFile.FieldType.object "java/lang/String"))]
set_option maxRecDepth 65536 in
theorem codes_eq : words1.filter isCode = codes1 := rfl
theorem w_codes : ∀ c ∈ words1.filter isCode, c.before args0 about1 = true := by
  rw [codes_eq]
  intro c hc
  simp only [codes1, List.mem_cons, List.not_mem_nil, or_false] at hc
  rcases hc with rfl | rfl | rfl | rfl | rfl | rfl | rfl | rfl | rfl | rfl | rfl | rfl
  · exact w_c0
  · exact w_c1
  · exact w_c2
  · exact w_c3
  · exact w_c4
  · exact w_c5
  · exact w_c6
  · exact w_c7
  · exact w_c8
  · exact w_c9
  · exact w_c10
  · exact w_c11
set_option maxRecDepth 65536 in
theorem w_t1 : (words1.take 24).all (fun c => isCode c || c.before args0 about1) = true := by decide +kernel
set_option maxRecDepth 65536 in
theorem w_t2 : ((words1.drop 24).take 24).all (fun c => isCode c || c.before args0 about1) = true := by decide +kernel
set_option maxRecDepth 65536 in
theorem w_t3 : (((words1.drop 24).drop 24).take 24).all (fun c => isCode c || c.before args0 about1) = true := by decide +kernel
set_option maxRecDepth 65536 in
theorem w_t4 : (((words1.drop 24).drop 24).drop 24).all (fun c => isCode c || c.before args0 about1) = true := by decide +kernel
theorem w_tables : (allAtoms (Jvm.Cond.code x code maxLocals ret :: tables_1)).before args0 about1 = true := by
  rw [allAtoms_all]
  show words1.all (fun c => c.before args0 about1) = true
  refine all_split ?_ w_codes
  rw [← List.take_append_drop 24 words1, List.all_append, w_t1, ← List.take_append_drop 24 (words1.drop 24), List.all_append, w_t2, ← List.take_append_drop 24 ((words1.drop 24).drop 24), List.all_append, w_t3, w_t4]
  rfl
set_option maxRecDepth 65536 in
theorem w_rest : rest_1_c.before args0 about1 = true := by decide +kernel
set_option maxRecDepth 65536 in
theorem w_case : (Jvm.Cond.and given_1 narrow_1).before args0 about1 = true := by decide +kernel
theorem w_applies : (headSpec (Jvm.Cond.code x code maxLocals ret :: tables_1) room_1).applies x e0.platform about1 = true :=
  (Spec.applies_iff w_frames).mpr ⟨w_running, w_runnable, w_alone, w_named, w_hears, w_ripe, w_room, w_tables⟩
theorem atStart : AtStart classFile x code maxLocals ret World_1 tables_1 room_1 Calls_1 rest_1 Pre_1 launch0 p0 e0 about1 theMethod args0 below0 :=
  ⟨lists_1, trivial, launch0.admits_env _ _ _, launch0.least_env, fairChoices_fair.cas, fairChoices_fair.clock, w_frames, w_args, w_heap, w_applies, trivial, w_rest, w_case⟩
end start1
theorem witness_1 : WitnessClaimed_1 := ⟨start1.p0, start1.e0, start1.about1, start1.theMethod, start1.args0, start1.below0, start1.atStart⟩
end Jvm.Pilot.@@N@@
