import JvmDerived
import JvmDerived.Pilot.@@N@@Statement
import JvmDerived.Pilot.@@N@@Code
set_option linter.unusedVariables false
set_option linter.unusedSimpArgs false
/- laws to paste: Road.backV (cut by pick.py; bodies as the Statement names them) -/
namespace Jvm.Pilot.@@N@@
namespace StrChars
open Jvm Sem ClassFile Op Lib Jvm.Stand Jvm.Free.XT Jvm.Free.ALB Jvm.Free.JM Jvm.Free
open Jvm.Lib.Cold (StaticIs)
/-- a char array whose places are chars -/
def Ch (a : Addr) (A : Cell) (U : State) : Prop := Arr .char a A U ∧ Typed .char A
theorem Ch.mv {a : Addr} {A : Cell} {U U' : State} (h : Ch a A U) (hal : U.vm.Alike U'.vm) (hh : U'.heap = U.heap) : Ch a A U' := ⟨h.1.mv hal hh, h.2⟩
theorem Ch.keep {a : Addr} {A : Cell} {U U' : State} (h : Ch a A U) (hal : U.vm.Alike U'.vm) (hk : U'.heap[a]? = some A) : Ch a A U' := ⟨h.1.keep hal hk, h.2⟩
/-- what place i of a char[]'s cell holds -/
def cv (A : Cell) (i : Nat) : Int32 := match A.slots[i]? with | some (.int x) => x | _ => 0
theorem Ch.get {a : Addr} {A : Cell} {U : State} (h : Ch a A U) {i : Nat} (hi : i < A.slots.size) : A.slots[i]? = some (.int (cv A i)) := by
  have e := Array.getElem?_eq_getElem hi
  have f := h.2 i _ e
  unfold cv; rw [e]
  generalize A.slots[i] = v at f
  cases v <;> simp [fits] at f ⊢
/-- the byte that i2b leaves of a char -/
def lo8 (x : Int32) : Int32 := x.toInt8.toInt32
theorem fits_lo8 (y : Int32) : fits .byte (.int (lo8 y)) = true := by
  have h1 := y.toInt8.le_toInt
  have h2 := y.toInt8.toInt_lt
  simp only [lo8, fits, Bool.and_eq_true, decide_eq_true_eq, Int32.le_iff_toInt_le, Int8.toInt_toInt32, show (-128 : Int32).toInt = -128 from by decide, show (127 : Int32).toInt = 127 from by decide]
  omega
/-- A' is A but that each place j of lo .. hi - 1 holds f j -/
def Laid (A A' : Cell) (lo hi : Nat) (f : Nat → Value) : Prop := A'.cls = A.cls ∧ A'.vm = A.vm ∧ A'.slots.size = A.slots.size ∧ ∀ i, A'.slots[i]? = if lo ≤ i ∧ i < hi then some (f i) else A.slots[i]?
theorem Laid.zero (A : Cell) (lo : Nat) (f : Nat → Value) : Laid A A lo (lo + 0) f := ⟨rfl, rfl, rfl, fun i => by rw [if_neg (by omega)]⟩
theorem Laid.step {A Ak : Cell} {lo k : Nat} {f : Nat → Value} {v : Value} (h : Laid A Ak lo k f) (hlo : lo ≤ k) (hk : k < Ak.slots.size) (hv : v = f k) : Laid A (Ak.setSlot k v) lo (k + 1) f := by
  refine ⟨h.1, h.2.1, by simpa [Cell.setSlot] using h.2.2.1, fun i => ?_⟩
  by_cases e : k = i
  · subst e; rw [Cell.slots_setSlot_self v hk, if_pos (by omega), hv]
  · rw [Cell.slots_setSlot_ne v e, h.2.2.2 i]
    by_cases q : lo ≤ i ∧ i < k
    · rw [if_pos q, if_pos (by omega)]
    · rw [if_neg q, if_neg (by omega)]
def U16 : String := "java/lang/StringUTF16"
namespace Cmp5
def yN : MethodName := ⟨"java/lang/StringUTF16", "compress", "([CI[BII)I"⟩
abbrev yB : ByteArray := jdk_52_method_21_code
theorem d0 : decode yB 0 = .ok (.iconst 0, 1) := by decide +kernel
theorem d1 : decode yB 1 = .ok (.istore 5, 2) := by decide +kernel
theorem d3 : decode yB 3 = .ok (.iload 5, 2) := by decide +kernel
theorem d5 : decode yB 5 = .ok (.iload 4, 2) := by decide +kernel
theorem d7 : decode yB 7 = .ok (.if_icmp (.ge) 37, 3) := by decide +kernel
theorem d10 : decode yB 10 = .ok (.aload_n 0, 1) := by decide +kernel
theorem d11 : decode yB 11 = .ok (.iload_n 1, 1) := by decide +kernel
theorem d12 : decode yB 12 = .ok (.caload, 1) := by decide +kernel
theorem d13 : decode yB 13 = .ok (.istore 6, 2) := by decide +kernel
theorem d15 : decode yB 15 = .ok (.iload 6, 2) := by decide +kernel
theorem d17 : decode yB 17 = .ok (.sipush 255, 3) := by decide +kernel
theorem d20 : decode yB 20 = .ok (.if_icmp (.le) 6, 3) := by decide +kernel
theorem d26 : decode yB 26 = .ok (.aload_n 2, 1) := by decide +kernel
theorem d27 : decode yB 27 = .ok (.iload_n 3, 1) := by decide +kernel
theorem d28 : decode yB 28 = .ok (.iload 6, 2) := by decide +kernel
theorem d30 : decode yB 30 = .ok (.i2b, 1) := by decide +kernel
theorem d31 : decode yB 31 = .ok (.bastore, 1) := by decide +kernel
theorem d32 : decode yB 32 = .ok (.iinc 1 1, 3) := by decide +kernel
theorem d35 : decode yB 35 = .ok (.iinc 3 1, 3) := by decide +kernel
theorem d38 : decode yB 38 = .ok (.iinc 5 1, 3) := by decide +kernel
theorem d41 : decode yB 41 = .ok (.goto (-38), 3) := by decide +kernel
theorem d44 : decode yB 44 = .ok (.iload 4, 2) := by decide +kernel
theorem d46 : decode yB 46 = .ok (.ireturn, 1) := by decide +kernel
def site : List Cond := []
def tab : Cond := tabOf yN yB 7 (some .int) site
def P (b : Addr) (A : Cell) (d : Addr) (B : Cell) (o q len : Nat) (args : Array Value) (s : State) : Prop := args = #[.ref b, .int (Int32.ofNat o), .ref d, .int (Int32.ofNat q), .int (Int32.ofNat len)] ∧ Ch b A s ∧ Arr .byte d B s ∧ b ≠ d ∧ o + len ≤ A.slots.size ∧ q + len ≤ B.slots.size ∧ ∀ i, i < len → ¬ 255 < cv A (o + i)
def E (b : Addr) (A : Cell) (d : Addr) (B : Cell) (o q len : Nat) (r : Option Value) (s u : State) : Prop := r = some (.int (Int32.ofNat len)) ∧ ∃ B', Put d B' s u ∧ Laid B B' q (q + len) (fun j => Value.int (lo8 (cv A (o + (j - q)))))
/-- no char of the range above 255: len; the places written hold each char's low byte -/
theorem law (l : Launch) (b : Addr) (A : Cell) (d : Addr) (B : Cell) (o q len : Nat) : Law l yN 5 5 0 0 yB 7 (some .int) site (P b A d B o q len) (E b A d B o q len) (copyLocs d q len) 0 0 := by
  refine Law.of_walk (plainFor_of_name (by decide +kernel)) (by decide +kernel) (by decide +kernel) (by decide) (fun _ _ h => by rw [h.1]; rfl) (fun _ U U' hal hh h => ⟨h.1, h.2.1.mv hal hh, h.2.2.1.mv hal hh, h.2.2.2⟩) (fun r U U' V V' h1 hal h2 h => ⟨h.1, h.2.elim fun B' q => ⟨B', q.1.mv h1 h2, q.2⟩⟩) ?_
  intro p e s m args below meth c s₁ X0 hexec hbytes hml hret hlk hnm hown hh0 W hP
  obtain ⟨rfl, hA, hB, hne, l1, l2, hp⟩ := hP
  have c1 : Steps p.tables e below (s₁.setTop (entryFrame m #[.ref b, .int (Int32.ofNat o), .ref d, .int (Int32.ofNat q), .int (Int32.ofNat len)] 7)) (s₁.setTop (mkF m 0 #[.val (.ref b), .val (.int (Int32.ofNat o)), .val (.ref d), .val (.int (Int32.ofNat q)), .val (.int (Int32.ofNat len)), .unset, .unset] [])) := entry rfl
  have hA0 := hA.1.mv X0.warmed.alike hh0
  have hB0 := hB.mv X0.warmed.alike hh0
  have a31 := hA.1.2.2.2
  have c2 : Steps p.tables e below (s₁.setTop (entryFrame m #[.ref b, .int (Int32.ofNat o), .ref d, .int (Int32.ofNat q), .int (Int32.ofNat len)] 7)) (s₁.setTop (mkF m 3 #[.val (.ref b), .val (.int (Int32.ofNat o)), .val (.ref d), .val (.int (Int32.ofNat q)), .val (.int (Int32.ofNat len)), .val (.int 0), .unset] [])) := c1.trans (by
    refine iconstV X0.here hexec rfl 0 (hb hbytes d0) (by decide) ?_
    refine XS.istore X0.here hexec rfl (hb hbytes d1) rfl rfl ?_
    exact Steps.refl _)
  have loop : ∀ (r i : Nat), i + r = len → ∀ (z : Slot), (z = .unset ∨ ∃ w, z = .val w ∧ w.category = 1) → ∀ (Tl : State) (Bk : Cell), Stand p l e { frames := 0, locals := 0, cells := 0, slots := 0 } s m #[.ref b, .int (Int32.ofNat o), .ref d, .int (Int32.ofNat q), .int (Int32.ofNat len)] below meth c Tl ([] ++ copyLocs d q i) 0 0 → Put d Bk s₁ Tl → Laid B Bk q (q + i) (fun j => Value.int (lo8 (cv A (o + (j - q))))) →
      Steps p.tables e below (s₁.setTop (entryFrame m #[.ref b, .int (Int32.ofNat o), .ref d, .int (Int32.ofNat q), .int (Int32.ofNat len)] 7)) (Tl.setTop (mkF m 3 #[.val (.ref b), .val (.int (Int32.ofNat (o + i))), .val (.ref d), .val (.int (Int32.ofNat (q + i))), .val (.int (Int32.ofNat len)), .val (.int (Int32.ofNat i)), z] [])) → ∃ (T' : State) (B' : Cell) (z' : Slot), Stand p l e { frames := 0, locals := 0, cells := 0, slots := 0 } s m #[.ref b, .int (Int32.ofNat o), .ref d, .int (Int32.ofNat q), .int (Int32.ofNat len)] below meth c T' ([] ++ copyLocs d q len) 0 0 ∧ Put d B' s₁ T' ∧ Laid B B' q (q + len) (fun j => Value.int (lo8 (cv A (o + (j - q))))) ∧
      Steps p.tables e below (s₁.setTop (entryFrame m #[.ref b, .int (Int32.ofNat o), .ref d, .int (Int32.ofNat q), .int (Int32.ofNat len)] 7)) (T'.setTop (mkF m 3 #[.val (.ref b), .val (.int (Int32.ofNat (o + len))), .val (.ref d), .val (.int (Int32.ofNat (q + len))), .val (.int (Int32.ofNat len)), .val (.int (Int32.ofNat len)), z'] [])) := by
    intro r
    induction r with
    | zero =>
      intro i hi z hz Tl Bk Xl pl fl cl
      have hil : i = len := by omega
      rw [hil] at Xl fl cl
      exact ⟨Tl, Bk, z, Xl, pl, fl, cl⟩
    | succ r ih =>
      intro i hi z hz Tl Bk Xl pl fl cl
      have all := X0.warmed.alike.symm.trans Xl.warmed.alike
      have hAl := hA0.keep all (pl.other hne hA0.1)
      have hBk := hB0.like all pl.1 fl.1 fl.2.1 fl.2.2.1
      have hlt : q + i < Bk.slots.size := by rw [fl.2.2.1]; omega
      have c3 : Steps p.tables e below (s₁.setTop (entryFrame m #[.ref b, .int (Int32.ofNat o), .ref d, .int (Int32.ofNat q), .int (Int32.ofNat len)] 7)) (Tl.setTop (mkF m 12 #[.val (.ref b), .val (.int (Int32.ofNat (o + i))), .val (.ref d), .val (.int (Int32.ofNat (q + i))), .val (.int (Int32.ofNat len)), .val (.int (Int32.ofNat i)), z] [.int (Int32.ofNat (o + i)), .ref b])) := cl.trans (by
        refine XS.iload Xl.here hexec rfl (hb hbytes d3) rfl ?_
        refine XS.iload Xl.here hexec rfl (hb hbytes d5) rfl ?_
        refine XS.icmpNo Xl.here hexec rfl (hb hbytes d7) rfl (ii_ge_f (lt32 (by omega) (by omega))) ?_
        refine XS.aloadN Xl.here hexec rfl (hb hbytes d10) rfl rfl ?_
        refine XS.iloadN Xl.here hexec rfl (hb hbytes d11) rfl ?_
        exact Steps.refl _)
      have c4 : Steps p.tables e below (s₁.setTop (entryFrame m #[.ref b, .int (Int32.ofNat o), .ref d, .int (Int32.ofNat q), .int (Int32.ofNat len)] 7)) (Tl.setTop (mkF m 13 #[.val (.ref b), .val (.int (Int32.ofNat (o + i))), .val (.ref d), .val (.int (Int32.ofNat (q + i))), .val (.int (Int32.ofNat len)), .val (.int (Int32.ofNat i)), z] [.int (cv A (o + i))])) := c3.trans (by
        refine Xl.aget hexec hAl rfl (hA.get (i := o + i) (by omega)) rfl rfl (hb hbytes d12) ?_
        exact Steps.refl _)
      have c5 : Steps p.tables e below (s₁.setTop (entryFrame m #[.ref b, .int (Int32.ofNat o), .ref d, .int (Int32.ofNat q), .int (Int32.ofNat len)] 7)) (Tl.setTop (mkF m 15 #[.val (.ref b), .val (.int (Int32.ofNat (o + i))), .val (.ref d), .val (.int (Int32.ofNat (q + i))), .val (.int (Int32.ofNat len)), .val (.int (Int32.ofNat i)), .val (.int (cv A (o + i)))] [])) := c4.trans (by
        refine XS.istoreS Xl.here hexec rfl (hb hbytes d13) rfl rfl hz ?_
        exact Steps.refl _)
      have c6 : Steps p.tables e below (s₁.setTop (entryFrame m #[.ref b, .int (Int32.ofNat o), .ref d, .int (Int32.ofNat q), .int (Int32.ofNat len)] 7)) (Tl.setTop (mkF m 31 #[.val (.ref b), .val (.int (Int32.ofNat (o + i))), .val (.ref d), .val (.int (Int32.ofNat (q + i))), .val (.int (Int32.ofNat len)), .val (.int (Int32.ofNat i)), .val (.int (cv A (o + i)))] [.int (lo8 (cv A (o + i))), .int (Int32.ofNat (q + i)), .ref d])) := c5.trans (by
        refine XS.iload Xl.here hexec rfl (hb hbytes d15) rfl ?_
        refine sipushV Xl.here hexec rfl 255 (hb hbytes d17) (by decide) ?_
        refine XS.icmpYes Xl.here hexec rfl (pc0 := 20) rfl (hb hbytes d20) rfl (ii_le_t (hp i (by omega))) (by decide) rfl ?_
        refine XS.aloadN Xl.here hexec rfl (hb hbytes d26) rfl rfl ?_
        refine XS.iloadN Xl.here hexec rfl (hb hbytes d27) rfl ?_
        refine XS.iload Xl.here hexec rfl (hb hbytes d28) rfl ?_
        refine i2b Xl.here hexec rfl (hb hbytes d30) rfl ?_
        exact Steps.refl _)
      obtain ⟨T7, X7, p7, st7⟩ := Xl.aput hexec hBk rfl hlt rfl (fits_lo8 (cv A (o + i))) (g := (mkF m 31 #[.val (.ref b), .val (.int (Int32.ofNat (o + i))), .val (.ref d), .val (.int (Int32.ofNat (q + i))), .val (.int (Int32.ofNat len)), .val (.int (Int32.ofNat i)), .val (.int (cv A (o + i)))] [.int (lo8 (cv A (o + i))), .int (Int32.ofNat (q + i)), .ref d])) rfl (rest := []) rfl (hb hbytes d31)
      have c8 : Steps p.tables e below (s₁.setTop (entryFrame m #[.ref b, .int (Int32.ofNat o), .ref d, .int (Int32.ofNat q), .int (Int32.ofNat len)] 7)) (T7.setTop (mkF m 32 #[.val (.ref b), .val (.int (Int32.ofNat (o + i))), .val (.ref d), .val (.int (Int32.ofNat (q + i))), .val (.int (Int32.ofNat len)), .val (.int (Int32.ofNat i)), .val (.int (cv A (o + i)))] [])) := c6.trans (st7 _ (Steps.refl _))
      have c9 : Steps p.tables e below (s₁.setTop (entryFrame m #[.ref b, .int (Int32.ofNat o), .ref d, .int (Int32.ofNat q), .int (Int32.ofNat len)] 7)) (T7.setTop (mkF m 3 #[.val (.ref b), .val (.int (Int32.ofNat (o + i) + 1)), .val (.ref d), .val (.int (Int32.ofNat (q + i) + 1)), .val (.int (Int32.ofNat len)), .val (.int (Int32.ofNat i + 1)), .val (.int (cv A (o + i)))] [])) := c8.trans (by
        refine iincV X7.here hexec rfl 1 (hb hbytes d32) (by decide) rfl rfl ?_
        refine iincV X7.here hexec rfl 1 (hb hbytes d35) (by decide) rfl rfl ?_
        refine iincV X7.here hexec rfl 1 (hb hbytes d38) (by decide) rfl rfl ?_
        refine XS.goto X7.here hexec rfl (pc0 := 41) rfl (hb hbytes d41) (by decide) rfl ?_
        exact Steps.refl _)
      have c10 : Steps p.tables e below (s₁.setTop (entryFrame m #[.ref b, .int (Int32.ofNat o), .ref d, .int (Int32.ofNat q), .int (Int32.ofNat len)] 7)) (T7.setTop (mkF m 3 #[.val (.ref b), .val (.int (Int32.ofNat (o + (i + 1)))), .val (.ref d), .val (.int (Int32.ofNat (q + (i + 1)))), .val (.int (Int32.ofNat len)), .val (.int (Int32.ofNat (i + 1))), .val (.int (cv A (o + i)))] [])) := by
        have := c9
        rw [succ32, succ32, succ32] at this
        exact this
      exact ih (i + 1) (by omega) _ (Or.inr ⟨_, rfl, rfl⟩) T7 _ (by rw [copyLocs_step, ← List.append_assoc]; exact X7) (pl.trans p7) (fl.step (by omega) hlt (by simp)) c10
  obtain ⟨T9, B9, z9, X9, p9, f9, g9⟩ := loop len 0 (by omega) .unset (Or.inl rfl) s₁ B (by simpa [copyLocs] using X0) ⟨hB0.1, fun _ _ => rfl, rfl⟩ (Laid.zero _ _ _) c2
  have c11 : Steps p.tables e below (s₁.setTop (entryFrame m #[.ref b, .int (Int32.ofNat o), .ref d, .int (Int32.ofNat q), .int (Int32.ofNat len)] 7)) (T9.setTop (mkF m 46 #[.val (.ref b), .val (.int (Int32.ofNat (o + len))), .val (.ref d), .val (.int (Int32.ofNat (q + len))), .val (.int (Int32.ofNat len)), .val (.int (Int32.ofNat len)), z9] [.int (Int32.ofNat len)])) := g9.trans (by
    refine XS.iload X9.here hexec rfl (hb hbytes d3) rfl ?_
    refine XS.iload X9.here hexec rfl (hb hbytes d5) rfl ?_
    refine XS.icmpYes X9.here hexec rfl (pc0 := 7) rfl (hb hbytes d7) rfl (ii_ge_t (nlt32 (by omega) (Nat.le_refl _))) (by decide) rfl ?_
    refine XS.iload X9.here hexec rfl (hb hbytes d44) rfl ?_
    exact Steps.refl _)
  exact ⟨T9, some (.int (Int32.ofNat len)), _, _, _, X9, by simp, rfl, rfl, (fun h => by cases h), ⟨rfl, B9, p9.from hh0, f9⟩, fun fs hl => c11.trans (X9.ireturnOut hexec hret rfl (Or.inl rfl) (hb hbytes d46) hl)⟩
end Cmp5
namespace Cmp3
def yN : MethodName := ⟨"java/lang/StringUTF16", "compress", "([CII)[B"⟩
abbrev yB : ByteArray := jdk_52_method_16_code
theorem d0 : decode yB 0 = .ok (.iload_n 2, 1) := by decide +kernel
theorem d1 : decode yB 1 = .ok (.newarray .byte, 2) := by decide +kernel
theorem d3 : decode yB 3 = .ok (.astore_n 3, 1) := by decide +kernel
theorem d4 : decode yB 4 = .ok (.aload_n 0, 1) := by decide +kernel
theorem d5 : decode yB 5 = .ok (.iload_n 1, 1) := by decide +kernel
theorem d6 : decode yB 6 = .ok (.aload_n 3, 1) := by decide +kernel
theorem d7 : decode yB 7 = .ok (.iconst 0, 1) := by decide +kernel
theorem d8 : decode yB 8 = .ok (.iload_n 2, 1) := by decide +kernel
theorem d9 : decode yB 9 = .ok (.invokestatic 115, 3) := by decide +kernel
theorem d12 : decode yB 12 = .ok (.istore 4, 2) := by decide +kernel
theorem d14 : decode yB 14 = .ok (.iload 4, 2) := by decide +kernel
theorem d16 : decode yB 16 = .ok (.iload_n 2, 1) := by decide +kernel
theorem d17 : decode yB 17 = .ok (.if_icmp (.eq) 40, 3) := by decide +kernel
theorem d57 : decode yB 57 = .ok (.aload_n 3, 1) := by decide +kernel
theorem d58 : decode yB 58 = .ok (.areturn, 1) := by decide +kernel
def site : List Cond := [.arrayClass .byte, Cmp5.tab] ++ staticW U16 115 Cmp5.yN
def tab : Cond := tabOf yN yB 6 (some (.array .byte)) site
def P (b : Addr) (A : Cell) (o len : Nat) (args : Array Value) (s : State) : Prop := args = #[.ref b, .int (Int32.ofNat o), .int (Int32.ofNat len)] ∧ Ch b A s ∧ o + len ≤ A.slots.size ∧ len ≤ 536870912 ∧ ∀ i, i < len → ¬ 255 < cv A (o + i)
def E (b : Addr) (A : Cell) (o len : Nat) (r : Option Value) (s u : State) : Prop := NewArr .byte "[B" len (fun j => .int (lo8 (cv A (o + j)))) r s u ∧ u.heap.size = s.heap.size + 1
/-- no char of the range above 255: a new byte[] of their low bytes -/
theorem law (l : Launch) (b : Addr) (A : Cell) (o len : Nat) : Law l yN 3 3 1 18 yB 6 (some (.array .byte)) site (P b A o len) (E b A o len) [] 1 len := by
  refine Law.of_walk (plainFor_of_name (by decide +kernel)) (by decide +kernel) (by decide +kernel) (by decide) (fun _ _ h => by rw [h.1]; rfl) (fun _ U U' hal hh h => ⟨h.1, h.2.1.mv hal hh, h.2.2⟩) (fun r U U' V V' h1 hal h2 h => ⟨NewArr.mv r U U' V V' h1 hal h2 h.1, by rw [h1, h2]; exact h.2⟩) ?_
  intro p e s m args below meth c s₁ X0 hexec hbytes hml hret hlk hnm hown hh0 W hP
  obtain ⟨rfl, hA, l1, l2, hp⟩ := hP
  have a31 := hA.1.2.2.2
  have c1 : Steps p.tables e below (s₁.setTop (entryFrame m #[.ref b, .int (Int32.ofNat o), .int (Int32.ofNat len)] 6)) (s₁.setTop (mkF m 0 #[.val (.ref b), .val (.int (Int32.ofNat o)), .val (.int (Int32.ofNat len)), .unset, .unset, .unset] [])) := entry rfl
  have c2 : Steps p.tables e below (s₁.setTop (entryFrame m #[.ref b, .int (Int32.ofNat o), .int (Int32.ofNat len)] 6)) (s₁.setTop (mkF m 1 #[.val (.ref b), .val (.int (Int32.ofNat o)), .val (.int (Int32.ofNat len)), .unset, .unset, .unset] [.int (Int32.ofNat len)])) := c1.trans (by
    refine XS.iloadN X0.here hexec rfl (hb hbytes d0) rfl ?_
    exact Steps.refl _)
  obtain ⟨T3, B3, X3, ba3, bs3, bv3, bh3, bf3, st3⟩ := X0.anew hexec (atype := .byte) (wk W (.arrayClass .byte)) rfl (by show len * 1 ≤ _; omega) (by omega) (g := (mkF m 1 #[.val (.ref b), .val (.int (Int32.ofNat o)), .val (.int (Int32.ofNat len)), .unset, .unset, .unset] [.int (Int32.ofNat len)])) rfl (hb hbytes d1) (rest := []) rfl (Nat.le_refl _) (by show 0 + len ≤ len; omega)
  rw [hh0] at ba3 st3
  have kp3 : XT.Kept s T3 := (XT.Kept.of_eq hh0).push bh3
  have hA3 := hA.keep X3.warmed.alike (kp3 _ _ hA.1.1)
  have hne : b ≠ s.heap.size := hA.1.ne
  have c4 : Steps p.tables e below (s₁.setTop (entryFrame m #[.ref b, .int (Int32.ofNat o), .int (Int32.ofNat len)] 6)) (T3.setTop (mkF m 3 #[.val (.ref b), .val (.int (Int32.ofNat o)), .val (.int (Int32.ofNat len)), .unset, .unset, .unset] [.ref s.heap.size])) := c2.trans (st3 _ (Steps.refl _))
  have c5 : Steps p.tables e below (s₁.setTop (entryFrame m #[.ref b, .int (Int32.ofNat o), .int (Int32.ofNat len)] 6)) (T3.setTop (mkF m 9 #[.val (.ref b), .val (.int (Int32.ofNat o)), .val (.int (Int32.ofNat len)), .val (.ref s.heap.size), .unset, .unset] [.int (Int32.ofNat len), .int 0, .ref s.heap.size, .int (Int32.ofNat o), .ref b])) := c4.trans (by
    refine XS.astoreN X3.here hexec rfl (hb hbytes d3) rfl rfl rfl ?_
    refine XS.aloadN X3.here hexec rfl (hb hbytes d4) rfl rfl ?_
    refine XS.iloadN X3.here hexec rfl (hb hbytes d5) rfl ?_
    refine XS.aloadN X3.here hexec rfl (hb hbytes d6) rfl rfl ?_
    refine iconstV X3.here hexec rfl 0 (hb hbytes d7) (by decide) ?_
    refine XS.iloadN X3.here hexec rfl (hb hbytes d8) rfl ?_
    exact Steps.refl _)
  obtain ⟨v6, T6, X6, E6, g6⟩ := X3.callS hexec (Cmp5.law l b A s.heap.size B3 o 0 len) hown (wks W (staticW U16 115 Cmp5.yN)) (wk W Cmp5.tab) (W := 0) (Nat.le_of_ble_eq_true rfl) (Nat.le_of_ble_eq_true rfl) (Nat.le_refl _) (by show 0 + len + 0 ≤ len; omega) (g := (mkF m 9 #[.val (.ref b), .val (.int (Int32.ofNat o)), .val (.int (Int32.ofNat len)), .val (.ref s.heap.size), .unset, .unset] [.int (Int32.ofNat len), .int (Int32.ofNat 0), .ref s.heap.size, .int (Int32.ofNat o), .ref b])) rfl (by rw [hml]; rfl) c5 (argsL := [.ref b, .int (Int32.ofNat o), .ref s.heap.size, .int (Int32.ofNat 0), .int (Int32.ofNat len)]) (rest := []) rfl rfl (by show 2 * 0 + 0 ≤ _; decide) (hb hbytes d9) (⟨rfl, hA3, ba3, hne, l1, by rw [bs3]; simp, hp⟩)
  obtain ⟨rfl, B6, p6, f6⟩ := E6
  have c7 : Steps p.tables e below (s₁.setTop (entryFrame m #[.ref b, .int (Int32.ofNat o), .int (Int32.ofNat len)] 6)) (T6.setTop (mkF m 12 #[.val (.ref b), .val (.int (Int32.ofNat o)), .val (.int (Int32.ofNat len)), .val (.ref s.heap.size), .unset, .unset] [.int (Int32.ofNat len)])) := g6
  have c8 : Steps p.tables e below (s₁.setTop (entryFrame m #[.ref b, .int (Int32.ofNat o), .int (Int32.ofNat len)] 6)) (T6.setTop (mkF m 58 #[.val (.ref b), .val (.int (Int32.ofNat o)), .val (.int (Int32.ofNat len)), .val (.ref s.heap.size), .val (.int (Int32.ofNat len)), .unset] [.ref s.heap.size])) := c7.trans (by
    refine XS.istore X6.here hexec rfl (hb hbytes d12) rfl rfl ?_
    refine XS.iload X6.here hexec rfl (hb hbytes d14) rfl ?_
    refine XS.iloadN X6.here hexec rfl (hb hbytes d16) rfl ?_
    refine XS.icmpYes X6.here hexec rfl (pc0 := 17) rfl (hb hbytes d17) rfl (ii_eq_t rfl) (by decide) rfl ?_
    refine XS.aloadN X6.here hexec rfl (hb hbytes d57) rfl rfl ?_
    exact Steps.refl _)
  have X8 := X6.wide (L' := []) (cells' := 1) (slots' := len) (fun x hx hlt => by
    simp only [List.nil_append, copyLocs, List.mem_map, List.mem_range] at hx
    obtain ⟨i, -, rfl⟩ := hx
    exact absurd hlt (Nat.lt_irrefl _)) (Nat.le_refl _) (by omega)
  exact ⟨T6, some (.ref s.heap.size), _, _, _, X8, rfl, rfl, rfl, (fun h => by cases h), ⟨⟨rfl, B6, ba3.like (X3.warmed.alike.symm.trans X6.warmed.alike) p6.1 f6.1 f6.2.1 f6.2.2.1, f6.2.1.trans bv3, by rw [X6.warmed.alike.findClass, f6.1]; exact bf3, by rw [f6.2.2.1, bs3]; simp, fun j hj => by rw [f6.2.2.2 j, if_pos (by omega)]; rfl, kp3.put p6 (Nat.le_refl _)⟩, by rw [p6.2.2, bh3, hh0]; simp⟩, fun fs hl => c8.trans (X8.areturnOut hexec rfl hret rfl (hb hbytes d58) hl)⟩
end Cmp3
namespace CodL
def yN : MethodName := ⟨"java/lang/StringUTF16", "coderFromArrayLen", "([BI)B"⟩
abbrev yB : ByteArray := jdk_52_method_15_code
theorem d0 : decode yB 0 = .ok (.iload_n 1, 1) := by decide +kernel
theorem d1 : decode yB 1 = .ok (.aload_n 0, 1) := by decide +kernel
theorem d2 : decode yB 2 = .ok (.arraylength, 1) := by decide +kernel
theorem d3 : decode yB 3 = .ok (.isub, 1) := by decide +kernel
theorem d4 : decode yB 4 = .ok (.bipush 31, 2) := by decide +kernel
theorem d6 : decode yB 6 = .ok (.iushr, 1) := by decide +kernel
theorem d7 : decode yB 7 = .ok (.i2b, 1) := by decide +kernel
theorem d8 : decode yB 8 = .ok (.ireturn, 1) := by decide +kernel
def site : List Cond := []
def tab : Cond := tabOf yN yB 2 (some .byte) site
def P (d : Addr) (B : Cell) (args : Array Value) (s : State) : Prop := args = #[.ref d, .int (Int32.ofNat B.slots.size)] ∧ Arr .byte d B s
def E (r : Option Value) (s u : State) : Prop := XT.PureE (some (.int 0)) r s u
/-- an array as long as the number of chars: LATIN1 -/
theorem law (l : Launch) (d : Addr) (B : Cell) : Law l yN 2 2 0 0 yB 2 (some .byte) site (P d B) E [] 0 0 := by
  refine Law.of_walk (plainFor_of_name (by decide +kernel)) (by decide +kernel) (by decide +kernel) (by decide) (fun _ _ h => by rw [h.1]; rfl) (fun _ U U' hal hh h => ⟨h.1, h.2.mv hal hh⟩) (fun r U U' V V' h1 hal h2 h => XT.PureE.mv r U U' V V' h1 hal h2 h) ?_
  intro p e s m args below meth c s₁ X0 hexec hbytes hml hret hlk hnm hown hh0 W hP
  obtain ⟨rfl, hB⟩ := hP
  have hB0 := hB.mv X0.warmed.alike hh0
  have c1 : Steps p.tables e below (s₁.setTop (entryFrame m #[.ref d, .int (Int32.ofNat B.slots.size)] 2)) (s₁.setTop (mkF m 0 #[.val (.ref d), .val (.int (Int32.ofNat B.slots.size))] [])) := entry rfl
  have c2 : Steps p.tables e below (s₁.setTop (entryFrame m #[.ref d, .int (Int32.ofNat B.slots.size)] 2)) (s₁.setTop (mkF m 2 #[.val (.ref d), .val (.int (Int32.ofNat B.slots.size))] [.ref d, .int (Int32.ofNat B.slots.size)])) := c1.trans (by
    refine XS.iloadN X0.here hexec rfl (hb hbytes d0) rfl ?_
    refine XS.aloadN X0.here hexec rfl (hb hbytes d1) rfl rfl ?_
    exact Steps.refl _)
  have c3 : Steps p.tables e below (s₁.setTop (entryFrame m #[.ref d, .int (Int32.ofNat B.slots.size)] 2)) (s₁.setTop (mkF m 8 #[.val (.ref d), .val (.int (Int32.ofNat B.slots.size))] [.int (lo8 (ushr (Int32.ofNat B.slots.size - Int32.ofNat B.slots.size) 31))])) := c2.trans (by
    refine X0.alen hexec hB0 rfl rfl (hb hbytes d2) ?_
    refine XS.isub X0.here hexec rfl (hb hbytes d3) rfl ?_
    refine bipushV X0.here hexec rfl 31 (hb hbytes d4) (by decide) ?_
    refine iushr X0.here hexec rfl (hb hbytes d6) rfl ?_
    refine i2b X0.here hexec rfl (hb hbytes d7) rfl ?_
    exact Steps.refl _)
  have e0 : lo8 (ushr (Int32.ofNat B.slots.size - Int32.ofNat B.slots.size) 31) = 0 := by rw [Int32.sub_self]; decide
  rw [e0] at c3
  exact ⟨s₁, some (.int 0), _, _, _, X0, rfl, rfl, rfl, (fun h => by cases h), ⟨rfl, hh0⟩, fun fs hl => c3.trans (X0.ireturnOut hexec hret rfl (Or.inr (Or.inr (Or.inl rfl))) (hb hbytes d8) hl)⟩
end CodL
/-- the String at a is Latin-1 over a new byte[] (the heap's one new cell): the low bytes of the len chars of A from o on; every cell but a is kept -/
def Got (a : Addr) (D : Cell) (fV fC : Field) (A : Cell) (o len : Nat) (r : Option Value) (s u : State) : Prop := r = none ∧ ∃ D' V : Cell, Blank "java/lang/String" a D' u ∧ Same D D' [fV.slot, fC.slot] ∧ D'.slots[fV.slot]? = some (.ref s.heap.size) ∧ D'.slots[fC.slot]? = some (.int 0) ∧ Arr .byte s.heap.size V u ∧ V.vm = .none ∧ u.vm.findClass "[B" = some V.cls ∧ V.slots.size = len ∧ (∀ j, j < len → V.slots[j]? = some (.int (lo8 (cv A (o + j))))) ∧ (∀ (y : Addr) (c : Cell), y ≠ a → s.heap[y]? = some c → u.heap[y]? = some c) ∧ u.heap.size = s.heap.size + 1
theorem Got.mv {a : Addr} {D A : Cell} {fV fC : Field} {o len : Nat} : ∀ r (U U' V V' : State), U'.heap = U.heap → V.vm.Alike V'.vm → V'.heap = V.heap → Got a D fV fC A o len r U V → Got a D fV fC A o len r U' V' :=
  fun r U U' V V' h1 hal h2 ⟨e0, D', X, a1, a2, a3, a4, a5, a6, a7, a8, a9, a10, a11⟩ => ⟨e0, D', X, a1.mv hal h2, a2, by rw [h1]; exact a3, a4, by rw [h1]; exact a5.mv hal h2, a6, by rw [hal.findClass]; exact a7, a8, a9, by rw [h1, h2]; exact a10, by rw [h1, h2]; exact a11⟩
namespace New4
def yN : MethodName := ⟨"java/lang/String", "<init>", "([CIILjava/lang/Void;)V"⟩
abbrev yB : ByteArray := jdk_42_method_149_code
theorem d0 : decode yB 0 = .ok (.aload_n 0, 1) := by decide +kernel
theorem d1 : decode yB 1 = .ok (.invokespecial 1, 3) := by decide +kernel
theorem d4 : decode yB 4 = .ok (.iload_n 3, 1) := by decide +kernel
theorem d5 : decode yB 5 = .ok (.ifCond (.ne) 22, 3) := by decide +kernel
theorem d27 : decode yB 27 = .ok (.getstatic 38, 3) := by decide +kernel
theorem d30 : decode yB 30 = .ok (.ifCond (.eq) 28, 3) := by decide +kernel
theorem d33 : decode yB 33 = .ok (.aload_n 1, 1) := by decide +kernel
theorem d34 : decode yB 34 = .ok (.iload_n 2, 1) := by decide +kernel
theorem d35 : decode yB 35 = .ok (.iload_n 3, 1) := by decide +kernel
theorem d36 : decode yB 36 = .ok (.invokestatic 177, 3) := by decide +kernel
theorem d39 : decode yB 39 = .ok (.astore 5, 2) := by decide +kernel
theorem d41 : decode yB 41 = .ok (.aload_n 0, 1) := by decide +kernel
theorem d42 : decode yB 42 = .ok (.aload 5, 2) := by decide +kernel
theorem d44 : decode yB 44 = .ok (.iload_n 3, 1) := by decide +kernel
theorem d45 : decode yB 45 = .ok (.invokestatic 47, 3) := by decide +kernel
theorem d48 : decode yB 48 = .ok (.putfield 15, 3) := by decide +kernel
theorem d51 : decode yB 51 = .ok (.aload_n 0, 1) := by decide +kernel
theorem d52 : decode yB 52 = .ok (.aload 5, 2) := by decide +kernel
theorem d54 : decode yB 54 = .ok (.putfield 9, 3) := by decide +kernel
theorem d57 : decode yB 57 = .ok (.return_, 1) := by decide +kernel
def site : List Cond := [.fieldLink "java/lang/String" 38 "java/lang/String" "COMPACT_STRINGS" "Z", Cmp3.tab, CodL.tab, .laysFinal "java/lang/String" "java/lang/String" "value" "[B", .fieldLink "java/lang/String" 9 "java/lang/String" "value" "[B", .laysFinal "java/lang/String" "java/lang/String" "coder" "B", .fieldLink "java/lang/String" 15 "java/lang/String" "coder" "B"] ++ objW "java/lang/String" 1 ++ staticW "java/lang/String" 177 Cmp3.yN ++ staticW "java/lang/String" 47 CodL.yN
def tab : Cond := tabOf yN yB 6 none site
def P (a : Addr) (D : Cell) (fV fC : Field) (b : Addr) (A : Cell) (z : Int32) (o len : Nat) (args : Array Value) (s : State) : Prop := args = #[.ref a, .ref b, .int (Int32.ofNat o), .int (Int32.ofNat len), .null] ∧ Blank "java/lang/String" a D s ∧ Found "java/lang/String" "value" "[B" fV s ∧ Found "java/lang/String" "coder" "B" fC s ∧ Ch b A s ∧ StaticIs s "java/lang/String" "COMPACT_STRINGS" "Z" (.int z) ∧ ¬ z = 0 ∧ 0 < len ∧ o + len ≤ A.slots.size ∧ len ≤ 536870912 ∧ ∀ i, i < len → ¬ 255 < cv A (o + i)
def E (a : Addr) (D : Cell) (fV fC : Field) (A : Cell) (o len : Nat) (r : Option Value) (s u : State) : Prop := Got a D fV fC A o len r s u
/-- len > 0, no char of the range above 255: a Latin-1 String of their low bytes -/
theorem law (l : Launch) (a : Addr) (D : Cell) (fV fC : Field) (b : Addr) (A : Cell) (z : Int32) (o len : Nat) : Law l yN 5 4 2 35 yB 6 none site (P a D fV fC b A z o len) (E a D fV fC A o len) [⟨a, fC.slot⟩, ⟨a, fV.slot⟩] 1 len := by
  refine Law.of_walk (plainFor_of_name (by decide +kernel)) (by decide +kernel) (by decide +kernel) (by decide) (fun _ _ h => by rw [h.1]; rfl) (fun _ U U' hal hh h => ⟨h.1, h.2.1.mv hal hh, h.2.2.1.al hal, h.2.2.2.1.al hal, h.2.2.2.2.1.mv hal hh, h.2.2.2.2.2.1.there hal hh, h.2.2.2.2.2.2⟩) (fun r U U' V V' h1 hal h2 h => Got.mv r U U' V V' h1 hal h2 h) ?_
  intro p e s m args below meth c s₁ X0 hexec hbytes hml hret hlk hnm hown hh0 W hP
  obtain ⟨rfl, hB, f1, f2, hA, s1, hz, l0, l1, l2, hp⟩ := hP
  have a31 := hA.1.2.2.2
  have c1 : Steps p.tables e below (s₁.setTop (entryFrame m #[.ref a, .ref b, .int (Int32.ofNat o), .int (Int32.ofNat len), .null] 6)) (s₁.setTop (mkF m 0 #[.val (.ref a), .val (.ref b), .val (.int (Int32.ofNat o)), .val (.int (Int32.ofNat len)), .val .null, .unset] [])) := entry rfl
  have c2 : Steps p.tables e below (s₁.setTop (entryFrame m #[.ref a, .ref b, .int (Int32.ofNat o), .int (Int32.ofNat len), .null] 6)) (s₁.setTop (mkF m 1 #[.val (.ref a), .val (.ref b), .val (.int (Int32.ofNat o)), .val (.int (Int32.ofNat len)), .val .null, .unset] [.ref a])) := c1.trans (by
    refine XS.aloadN X0.here hexec rfl (hb hbytes d0) rfl rfl ?_
    exact Steps.refl _)
  obtain ⟨T3, X3, q3, st3⟩ := X0.oinit hexec hown (wks W (objW "java/lang/String" 1)) (g := (mkF m 1 #[.val (.ref a), .val (.ref b), .val (.int (Int32.ofNat o)), .val (.int (Int32.ofNat len)), .val .null, .unset] [.ref a])) rfl (by rw [hml]; rfl) (rest := []) rfl (hb hbytes d1) (W := 0) (by show 2 * 0 + 0 ≤ _; decide) (Nat.le_of_ble_eq_true rfl) (Nat.le_of_ble_eq_true rfl)
  have hh3 := q3.trans hh0
  have c4 : Steps p.tables e below (s₁.setTop (entryFrame m #[.ref a, .ref b, .int (Int32.ofNat o), .int (Int32.ofNat len), .null] 6)) (T3.setTop (mkF m 27 #[.val (.ref a), .val (.ref b), .val (.int (Int32.ofNat o)), .val (.int (Int32.ofNat len)), .val .null, .unset] [])) := (c2.trans (st3 _ (Steps.refl _))).trans (by
    refine XS.iloadN X3.here hexec rfl (hb hbytes d4) rfl ?_
    refine XS.ifYes X3.here hexec rfl (pc0 := 5) rfl (hb hbytes d5) rfl (i0_ne_t (nz32 (by omega) l0)) (by decide) rfl ?_
    exact Steps.refl _)
  obtain ⟨T5, X5, q5, st5⟩ := X3.sget hexec hown (wk W (.fieldLink "java/lang/String" 38 "java/lang/String" "COMPACT_STRINGS" "Z")) s1 (fun _ _ h => by rw [hh3]; exact h) (g := (mkF m 27 #[.val (.ref a), .val (.ref b), .val (.int (Int32.ofNat o)), .val (.int (Int32.ofNat len)), .val .null, .unset] [])) rfl (hb hbytes d27)
  have hh5 := q5.trans hh3
  have c6 : Steps p.tables e below (s₁.setTop (entryFrame m #[.ref a, .ref b, .int (Int32.ofNat o), .int (Int32.ofNat len), .null] 6)) (T5.setTop (mkF m 30 #[.val (.ref a), .val (.ref b), .val (.int (Int32.ofNat o)), .val (.int (Int32.ofNat len)), .val .null, .unset] [.int z])) := c4.trans (st5 _ (Steps.refl _))
  have c7 : Steps p.tables e below (s₁.setTop (entryFrame m #[.ref a, .ref b, .int (Int32.ofNat o), .int (Int32.ofNat len), .null] 6)) (T5.setTop (mkF m 36 #[.val (.ref a), .val (.ref b), .val (.int (Int32.ofNat o)), .val (.int (Int32.ofNat len)), .val .null, .unset] [.int (Int32.ofNat len), .int (Int32.ofNat o), .ref b])) := c6.trans (by
    refine XS.ifNo X5.here hexec rfl (hb hbytes d30) rfl (i0_eq_f hz) ?_
    refine XS.aloadN X5.here hexec rfl (hb hbytes d33) rfl rfl ?_
    refine XS.iloadN X5.here hexec rfl (hb hbytes d34) rfl ?_
    refine XS.iloadN X5.here hexec rfl (hb hbytes d35) rfl ?_
    exact Steps.refl _)
  obtain ⟨v8, T8, X8, E8, g8⟩ := X5.callS hexec (Cmp3.law l b A o len) hown (wks W (staticW "java/lang/String" 177 Cmp3.yN)) (wk W Cmp3.tab) (W := 0) (Nat.le_of_ble_eq_true rfl) (Nat.le_of_ble_eq_true rfl) (Nat.le_refl _) (by show 0 + len ≤ len; omega) (g := (mkF m 36 #[.val (.ref a), .val (.ref b), .val (.int (Int32.ofNat o)), .val (.int (Int32.ofNat len)), .val .null, .unset] [.int (Int32.ofNat len), .int (Int32.ofNat o), .ref b])) rfl (by rw [hml]; rfl) c7 (argsL := [.ref b, .int (Int32.ofNat o), .int (Int32.ofNat len)]) (rest := []) rfl rfl (by show 2 * 0 + 0 ≤ _; decide) (hb hbytes d36) (⟨rfl, hA.mv X5.warmed.alike hh5, l1, l2, hp⟩)
  obtain ⟨e8, z8⟩ := E8
  obtain ⟨rfl, N, n1, n2, n3, n4, n5, n6⟩ := NewArr.mv _ T5 s _ _ hh5.symm (Vm.Alike.refl _) rfl e8
  rw [hh5] at z8
  have hB1 := hB.keep X8.warmed.alike (n6 _ _ hB.1)
  have hne : s.heap.size ≠ a := (Nat.ne_of_lt (Array.getElem?_eq_some_iff.mp hB.1).1).symm
  have c9 : Steps p.tables e below (s₁.setTop (entryFrame m #[.ref a, .ref b, .int (Int32.ofNat o), .int (Int32.ofNat len), .null] 6)) (T8.setTop (mkF m 39 #[.val (.ref a), .val (.ref b), .val (.int (Int32.ofNat o)), .val (.int (Int32.ofNat len)), .val .null, .unset] [.ref s.heap.size])) := g8
  have c10 : Steps p.tables e below (s₁.setTop (entryFrame m #[.ref a, .ref b, .int (Int32.ofNat o), .int (Int32.ofNat len), .null] 6)) (T8.setTop (mkF m 45 #[.val (.ref a), .val (.ref b), .val (.int (Int32.ofNat o)), .val (.int (Int32.ofNat len)), .val .null, .val (.ref s.heap.size)] [.int (Int32.ofNat N.slots.size), .ref s.heap.size, .ref a])) := by
    have hc : Steps p.tables e below (s₁.setTop (entryFrame m #[.ref a, .ref b, .int (Int32.ofNat o), .int (Int32.ofNat len), .null] 6)) (T8.setTop (mkF m 45 #[.val (.ref a), .val (.ref b), .val (.int (Int32.ofNat o)), .val (.int (Int32.ofNat len)), .val .null, .val (.ref s.heap.size)] [.int (Int32.ofNat len), .ref s.heap.size, .ref a])) := c9.trans (by
      refine XS.astore X8.here hexec rfl (hb hbytes d39) rfl rfl rfl ?_
      refine XS.aloadN X8.here hexec rfl (hb hbytes d41) rfl rfl ?_
      refine XS.aload X8.here hexec rfl (hb hbytes d42) rfl rfl ?_
      refine XS.iloadN X8.here hexec rfl (hb hbytes d44) rfl ?_
      exact Steps.refl _)
    rw [n4]; exact hc
  obtain ⟨v11, T11, X11, E11, g11⟩ := X8.callS hexec (CodL.law l s.heap.size N) hown (wks W (staticW "java/lang/String" 47 CodL.yN)) (wk W CodL.tab) (W := 1) (Nat.le_of_ble_eq_true rfl) (Nat.le_of_ble_eq_true rfl) (Nat.le_refl _) (by show 0 + len + 0 ≤ len; omega) (g := (mkF m 45 #[.val (.ref a), .val (.ref b), .val (.int (Int32.ofNat o)), .val (.int (Int32.ofNat len)), .val .null, .val (.ref s.heap.size)] [.int (Int32.ofNat N.slots.size), .ref s.heap.size, .ref a])) rfl (by rw [hml]; rfl) c10 (argsL := [.ref s.heap.size, .int (Int32.ofNat N.slots.size)]) (rest := [.ref a]) rfl rfl (by show 2 * 0 + (1 + 0) ≤ _; decide) (hb hbytes d45) (⟨rfl, n1⟩)
  obtain ⟨rfl, q11⟩ := E11
  have hB11 := hB1.mv (X8.warmed.alike.symm.trans X11.warmed.alike) q11
  have c12 : Steps p.tables e below (s₁.setTop (entryFrame m #[.ref a, .ref b, .int (Int32.ofNat o), .int (Int32.ofNat len), .null] 6)) (T11.setTop (mkF m 48 #[.val (.ref a), .val (.ref b), .val (.int (Int32.ofNat o)), .val (.int (Int32.ofNat len)), .val .null, .val (.ref s.heap.size)] [.int 0, .ref a])) := g11
  obtain ⟨T13, X13, p13, bl13, sl13, st13⟩ := X11.finit hexec hown (wk W (.fieldLink "java/lang/String" 15 "java/lang/String" "coder" "B")) (Or.inr ⟨_, (wk W (.laysFinal "java/lang/String" "java/lang/String" "coder" "B"))⟩) (Or.inl ⟨rfl, hnm⟩) f2 (Or.inl rfl) hB11 (t := .byte) (by decide +kernel) rfl (g := (mkF m 48 #[.val (.ref a), .val (.ref b), .val (.int (Int32.ofNat o)), .val (.int (Int32.ofNat len)), .val .null, .val (.ref s.heap.size)] [.int 0, .ref a])) rfl (rest := []) rfl (hb hbytes d48)
  have c14 : Steps p.tables e below (s₁.setTop (entryFrame m #[.ref a, .ref b, .int (Int32.ofNat o), .int (Int32.ofNat len), .null] 6)) (T13.setTop (mkF m 54 #[.val (.ref a), .val (.ref b), .val (.int (Int32.ofNat o)), .val (.int (Int32.ofNat len)), .val .null, .val (.ref s.heap.size)] [.ref s.heap.size, .ref a])) := (c12.trans (st13 _ (Steps.refl _))).trans (by
    refine XS.aloadN X13.here hexec rfl (hb hbytes d51) rfl rfl ?_
    refine XS.aload X13.here hexec rfl (hb hbytes d52) rfl rfl ?_
    exact Steps.refl _)
  obtain ⟨T15, X15, p15, bl15, sl15, st15⟩ := X13.finit hexec hown (wk W (.fieldLink "java/lang/String" 9 "java/lang/String" "value" "[B")) (Or.inr ⟨_, (wk W (.laysFinal "java/lang/String" "java/lang/String" "value" "[B"))⟩) (Or.inl ⟨rfl, hnm⟩) f1 (Or.inl rfl) bl13 (t := (.array .byte)) (by decide +kernel) rfl (g := (mkF m 54 #[.val (.ref a), .val (.ref b), .val (.int (Int32.ofNat o)), .val (.int (Int32.ofNat len)), .val .null, .val (.ref s.heap.size)] [.ref s.heap.size, .ref a])) rfl (rest := []) rfl (hb hbytes d54)
  have c16 : Steps p.tables e below (s₁.setTop (entryFrame m #[.ref a, .ref b, .int (Int32.ofNat o), .int (Int32.ofNat len), .null] 6)) (T15.setTop (mkF m 57 #[.val (.ref a), .val (.ref b), .val (.int (Int32.ofNat o)), .val (.int (Int32.ofNat len)), .val .null, .val (.ref s.heap.size)] [])) := c14.trans (st15 _ (Steps.refl _))
  have ap := apart (Or.inr ⟨_, (wk W (.laysFinal "java/lang/String" "java/lang/String" "value" "[B"))⟩) (Or.inr ⟨_, (wk W (.laysFinal "java/lang/String" "java/lang/String" "coder" "B"))⟩) f1 f2 (t₁ := .array .byte) (t₂ := .byte) (by decide +kernel) (by decide +kernel) (by decide)
  have al := X8.warmed.alike.symm.trans X15.warmed.alike
  have n7 : T11.heap[s.heap.size]? = some N := by rw [q11]; exact n1.1
  exact ⟨T15, none, _, _, _, X15, by simp, rfl, by omega, (fun _ => rfl), ⟨rfl, _, N, bl15, ((Same.refl D _).set _ (by simp)).set _ (by simp), sl15, (Cell.slots_setSlot_ne _ ap).trans sl13, n1.keep al (p15.other hne (p13.other hne n7)), n2, by rw [al.findClass]; exact n3, n4, n5, fun y c h1 h2 => p15.other h1 (p13.other h1 (by rw [q11]; exact n6 y c h2)), by rw [p15.2.2, p13.2.2, q11]; exact z8⟩, fun fs hl => c16.trans (X15.returnOut hexec hret (hb hbytes d57) hl)⟩
end New4
namespace New1
def yN : MethodName := ⟨"java/lang/String", "<init>", "([C)V"⟩
abbrev yB : ByteArray := jdk_42_method_3_code
theorem d0 : decode yB 0 = .ok (.aload_n 0, 1) := by decide +kernel
theorem d1 : decode yB 1 = .ok (.aload_n 1, 1) := by decide +kernel
theorem d2 : decode yB 2 = .ok (.iconst 0, 1) := by decide +kernel
theorem d3 : decode yB 3 = .ok (.aload_n 1, 1) := by decide +kernel
theorem d4 : decode yB 4 = .ok (.arraylength, 1) := by decide +kernel
theorem d5 : decode yB 5 = .ok (.aconst_null, 1) := by decide +kernel
theorem d6 : decode yB 6 = .ok (.invokespecial 27, 3) := by decide +kernel
theorem d9 : decode yB 9 = .ok (.return_, 1) := by decide +kernel
def site : List Cond := [New4.tab] ++ initW "java/lang/String" 27 New4.yN
def tab : Cond := tabOf yN yB 2 none site
def P (a : Addr) (D : Cell) (fV fC : Field) (b : Addr) (A : Cell) (z : Int32) (args : Array Value) (s : State) : Prop := args = #[.ref a, .ref b] ∧ Blank "java/lang/String" a D s ∧ Found "java/lang/String" "value" "[B" fV s ∧ Found "java/lang/String" "coder" "B" fC s ∧ Ch b A s ∧ StaticIs s "java/lang/String" "COMPACT_STRINGS" "Z" (.int z) ∧ ¬ z = 0 ∧ 0 < A.slots.size ∧ A.slots.size ≤ 536870912 ∧ ∀ i, i < A.slots.size → ¬ 255 < cv A i
def E (a : Addr) (D : Cell) (fV fC : Field) (A : Cell) (r : Option Value) (s u : State) : Prop := Got a D fV fC A 0 A.slots.size r s u
/-- new String(chars), not empty, no char above 255: a Latin-1 String of their low bytes -/
theorem law (l : Launch) (a : Addr) (D : Cell) (fV fC : Field) (b : Addr) (A : Cell) (z : Int32) : Law l yN 2 1 3 52 yB 2 none site (P a D fV fC b A z) (E a D fV fC A) [⟨a, fC.slot⟩, ⟨a, fV.slot⟩] 1 A.slots.size := by
  refine Law.of_walk (plainFor_of_name (by decide +kernel)) (by decide +kernel) (by decide +kernel) (by decide) (fun _ _ h => by rw [h.1]; rfl) (fun _ U U' hal hh h => ⟨h.1, h.2.1.mv hal hh, h.2.2.1.al hal, h.2.2.2.1.al hal, h.2.2.2.2.1.mv hal hh, h.2.2.2.2.2.1.there hal hh, h.2.2.2.2.2.2⟩) (fun r U U' V V' h1 hal h2 h => Got.mv r U U' V V' h1 hal h2 h) ?_
  intro p e s m args below meth c s₁ X0 hexec hbytes hml hret hlk hnm hown hh0 W hP
  obtain ⟨rfl, hB, f1, f2, hA, s1, hz, l0, l2, hp⟩ := hP
  have c1 : Steps p.tables e below (s₁.setTop (entryFrame m #[.ref a, .ref b] 2)) (s₁.setTop (mkF m 0 #[.val (.ref a), .val (.ref b)] [])) := entry rfl
  have c2 : Steps p.tables e below (s₁.setTop (entryFrame m #[.ref a, .ref b] 2)) (s₁.setTop (mkF m 6 #[.val (.ref a), .val (.ref b)] [.null, .int (Int32.ofNat A.slots.size), .int 0, .ref b, .ref a])) := c1.trans (by
    refine XS.aloadN X0.here hexec rfl (hb hbytes d0) rfl rfl ?_
    refine XS.aloadN X0.here hexec rfl (hb hbytes d1) rfl rfl ?_
    refine iconstV X0.here hexec rfl 0 (hb hbytes d2) (by decide) ?_
    refine XS.aloadN X0.here hexec rfl (hb hbytes d3) rfl rfl ?_
    refine X0.alen hexec (hA.1.mv X0.warmed.alike hh0) rfl rfl (hb hbytes d4) ?_
    refine XS.aconstNull X0.here hexec rfl (hb hbytes d5) ?_
    exact Steps.refl _)
  obtain ⟨v3, T3, X3, E3, g3⟩ := X0.callN hexec (New4.law l a D fV fC b A z 0 A.slots.size) rfl hown (wks W (initW "java/lang/String" 27 New4.yN)) (W New4.tab (by simp only [site, List.mem_cons, List.mem_append, true_or, or_true])) (W := 0) (Nat.le_of_ble_eq_true rfl) (Nat.le_of_ble_eq_true rfl) (Nat.le_refl _) (by show 0 + A.slots.size ≤ A.slots.size; omega) (g := (mkF m 6 #[.val (.ref a), .val (.ref b)] [.null, .int (Int32.ofNat A.slots.size), .int (Int32.ofNat 0), .ref b, .ref a])) rfl (by rw [hml]; rfl) c2 (argsL := [.ref b, .int (Int32.ofNat 0), .int (Int32.ofNat A.slots.size), .null]) (rest := []) rfl rfl (by show 2 * 0 + 0 ≤ _; decide) (hb hbytes d6) (⟨rfl, hB.mv X0.warmed.alike hh0, f1.al X0.warmed.alike, f2.al X0.warmed.alike, hA.mv X0.warmed.alike hh0, s1.there X0.warmed.alike hh0, hz, l0, by omega, l2, fun i hi => by rw [Nat.zero_add]; exact hp i hi⟩)
  have e0 := Got.mv _ s₁ s _ _ hh0.symm (Vm.Alike.refl _) rfl E3
  obtain rfl := e0.1
  have c4 : Steps p.tables e below (s₁.setTop (entryFrame m #[.ref a, .ref b] 2)) (T3.setTop (mkF m 9 #[.val (.ref a), .val (.ref b)] [])) := g3
  exact ⟨T3, none, _, _, _, X3, by simp, rfl, by omega, (fun _ => rfl), e0, fun fs hl => c4.trans (X3.returnOut hexec hret (hb hbytes d9) hl)⟩
theorem pays {l : Launch} {R : Room} {p : Program} {e : Env} {below : List Frame} {s : State} {sargs : Array Value} {len W : Nat} (a : Addr) (D : Cell) (fV fC : Field) (b : Addr) (A : Cell) (z : Int32) (htab : tab.before sargs s = true) (hfr : 4 ≤ R.frames) (hlo : W + 65 ≤ R.locals) :
    Back l R p e below s sargs yN len W (fun A₁ a₁ => A₁.cells + 1 ≤ R.cells ∧ A₁.slots + A.slots.size ≤ R.slots ∧ P a D fV fC b A z a₁ A₁.U) (fun A₁ _ v₁ B₁ => E a D fV fC A v₁ A₁.U B₁.U ∧ B₁.locs = A₁.locs ++ [⟨a, fC.slot⟩, ⟨a, fV.slot⟩] ∧ B₁.cells = A₁.cells + 1 ∧ B₁.slots = A₁.slots + A.slots.size) :=
  (law l a D fV fC b A z).pays htab hfr (by omega)
end New1
end StrChars
namespace StrChars.Road
open Jvm Sem ClassFile Op Lib Jvm.Stand Jvm.Free Jvm.Free.XT
open Jvm.Lib.Cold (StaticIs)
abbrev ST : String := "java/lang/String"
/-- every table word that New1's law asks, flat -/
abbrev words : List Jvm.Cond := [.code New1.yN New1.yB 2 none, .initialized ST, .methodLink ST 27 New4.yN, .instanceMethod New4.yN,
  .code New4.yN New4.yB 6 none, .fieldLink ST 38 ST "COMPACT_STRINGS" "Z", .laysFinal ST ST "value" "[B", .fieldLink ST 9 ST "value" "[B", .laysFinal ST ST "coder" "B", .fieldLink ST 15 ST "coder" "B",
  .methodLink ST 1 Lib.objectInit, .instanceMethod Lib.objectInit, .code Lib.objectInit ⟨#[0xb1]⟩ 1 none, .methodLink ST 177 Cmp3.yN, .static Cmp3.yN, .methodLink ST 47 CodL.yN, .static CodL.yN,
  .code Cmp3.yN Cmp3.yB 6 (some (.array .byte)), .initialized U16, .arrayClass .byte, .methodLink U16 115 Cmp5.yN, .static Cmp5.yN, .code Cmp5.yN Cmp5.yB 7 (some .int), .code CodL.yN CodL.yB 2 (some .byte)]
theorem tab_of {a : Array Value} {s : State} (h : ∀ w ∈ words, w.before a s = true) : New1.tab.before a s = true := by
  have h5 : Cmp5.tab.before a s = true := unparts (wk h (.code Cmp5.yN Cmp5.yB 7 (some .int))) (wks h (.initialized Cmp5.yN.cls :: Cmp5.site))
  have hc : CodL.tab.before a s = true := unparts (wk h (.code CodL.yN CodL.yB 2 (some .byte))) (wks h (.initialized CodL.yN.cls :: CodL.site))
  have q5 : ∀ w ∈ Cmp5.tab :: words, w.before a s = true := fun w hw => (List.mem_cons.mp hw).elim (fun e => e ▸ h5) (h w)
  have h3 : Cmp3.tab.before a s = true := unparts (wk q5 (.code Cmp3.yN Cmp3.yB 6 (some (.array .byte)))) (wks q5 (.initialized Cmp3.yN.cls :: Cmp3.site))
  have q3 : ∀ w ∈ Cmp3.tab :: CodL.tab :: words, w.before a s = true := fun w hw => (List.mem_cons.mp hw).elim (fun e => e ▸ h3) fun hw => (List.mem_cons.mp hw).elim (fun e => e ▸ hc) (h w)
  have h4 : New4.tab.before a s = true := unparts (wk q3 (.code New4.yN New4.yB 6 none)) (wks q3 (.initialized New4.yN.cls :: New4.site))
  have q4 : ∀ w ∈ New4.tab :: words, w.before a s = true := fun w hw => (List.mem_cons.mp hw).elim (fun e => e ▸ h4) (h w)
  exact unparts (wk q4 (.code New1.yN New1.yB 2 none)) (wks q4 (.initialized New1.yN.cls :: New1.site))
/-- the words ride from the start Z to the walk's own state -/
theorem moved {Z s : State} {a0 args : Array Value} (hZ : Z.Warmed39 s.vm) (hw : ∀ d ∈ words, d.before a0 Z = true) : ∀ d ∈ words, d.before args s = true := fun d hd => by
  have q := hw d hd
  have t : ∀ d ∈ words, d = .arrayClass .byte ∨ (d.onTables && d.keepsFace) = true := by decide +kernel
  rcases t d hd with rfl | t
  · exact RoadKit.mvA hZ q
  · exact RoadKit.mv hZ q t
/-- WHAT COMES BACK, over the tables of the start Z: h the heap at the call, h' behind it -/
def Q (Z : State) (x : Addr) (A : Cell) (h : Heap) (v : Option Value) (h' : Heap) (L : List Loc) : Prop := v = none ∧ (∀ y ∈ L, y.base = x) ∧ RoadKit.Keep h h' [x] ∧ h'.size = h.size + 1 ∧ RoadKit.Exa Z h' x ST ∧ RoadKit.Fld Z h' x ST "value" "[B" (.ref h.size) ∧ RoadKit.Fld Z h' x ST "coder" "B" (.int 0) ∧
  (∃ V : Cell, RoadKit.Arr Z h' h.size V .byte ∧ V.vm = .none ∧ Z.vm.findClass "[B" = some V.cls ∧ V.slots.size = A.slots.size ∧ ∀ j, j < A.slots.size → V.slots[j]? = some (.int (lo8 (cv A j)))) ∧
  ∀ (O n d : String) (w : Value), RoadKit.Fld Z h x O n d w → RoadKit.slotOf Z O n d ≠ RoadKit.slotOf Z ST "value" "[B" → RoadKit.slotOf Z O n d ≠ RoadKit.slotOf Z ST "coder" "B" → RoadKit.Fld Z h' x O n d w
/-- **new String(chars) AT A CALL, IN THE ROAD'S FORM**: for specialBack behind newO: x the fresh String, b the char[] with the cell A -/
theorem back {p : Program} {l : Launch} {e : Env} {R : Room} {s : State} {args : Array Value} {below : List Frame} {len W : Nat} {Z : State} {a0 : Array Value} {h : Heap} (hZ : Z.Warmed39 s.vm) (hw : ∀ d ∈ words, d.before a0 Z = true) {kI : Nat} (wi : (Jvm.Cond.instantiable ST kI).before a0 Z = true)
    {x b : Addr} {A : Cell} {z : Int32} {v0 c0 : Value} (E : RoadKit.Exa Z h x ST) (V : RoadKit.Fld Z h x ST "value" "[B" v0) (C : RoadKit.Fld Z h x ST "coder" "B" c0) (K : RoadKit.Arr Z h b A .char) (hty : Typed .char A) (S : RoadKit.Sta Z h ST "COMPACT_STRINGS" "Z" (.int z)) (hz : ¬ z = 0)
    (l0 : 0 < A.slots.size) (l2 : A.slots.size ≤ 536870912) (hp : ∀ i, i < A.slots.size → ¬ 255 < cv A i) (hfr : 4 ≤ R.frames) (hlo : W + 65 ≤ R.locals) :
    Back l R p e below s args New1.yN len W (fun P a => a = #[.ref x, .ref b] ∧ P.U.heap = h ∧ P.cells + 1 ≤ R.cells ∧ P.slots + A.slots.size ≤ R.slots)
      (fun P _ v B => ∃ L, Q Z x A h v B.U.heap L ∧ B.locs = P.locs ++ L ∧ B.cells = P.cells + 1 ∧ B.slots = P.slots + A.slots.size) := by
  intro m meth c P g ig mk a X hg hsize hdg hW hn hp'
  obtain ⟨rfl, rfl, r1, r2⟩ := hp'
  have al : Z.vm.Alike P.U.vm := hZ.alike.trans X.warmed.alike
  obtain ⟨D, cfV, kV, iV, fV, hD, gV, stV, knV, obV, asV, slV⟩ := id V
  obtain ⟨D', cfC, kC, iC, fC, hD', gC, stC, -, -, asC, slC⟩ := id C
  cases hD.symm.trans hD'
  obtain ⟨D2, kD, e1, e2, e3, e4, e5⟩ := id E
  cases hD.symm.trans e1
  obtain ⟨c2, k2, i1, i2, i3, -⟩ := Cond.instantiable_spec wi
  cases e2.symm.trans i1
  cases e3.symm.trans i2
  obtain ⟨kU, u1, u2⟩ := al.2.2 _ _ e3
  have hB : Blank ST x D P.U := ⟨hD, ⟨knV, fun q hq => by rw [hq] at obV; cases obV⟩, by rw [al.findClass]; exact e2, kU, u1, by rw [u2]; exact i3, by rw [u2]; exact e5 i3⟩
  have F1 : Found ST "value" "[B" fV P.U := ⟨SBG.found_only al ⟨cfV, kV, iV, gV⟩, stV⟩
  have F2 : Found ST "coder" "B" fC P.U := ⟨SBG.found_only al ⟨cfC, kC, iC, gC⟩, stC⟩
  have hA : Ch b A P.U := ⟨⟨K.1, State.isArrayOf_alike al K.2.1, K.2.2, by omega⟩, hty⟩
  have hS : StaticIs P.U ST "COMPACT_STRINGS" "Z" (.int z) := by
    obtain ⟨cfS, iS, kS, fS, st, cS, t1, t2, t3, t4, t5, t6, t7⟩ := S
    exact StaticIs.there (s := { Z with heap := P.U.heap }) ⟨cfS, iS, kS, fS, st, cS, t1, t2, t3, t4, t5, (fun q => by rw [q] at t6; cases t6), t7⟩ al rfl
  obtain ⟨v, B, X', ⟨⟨hv, E', V', q1, q2, q3, q4, q5, q6, q7, q8, q9, q10, q11⟩, hl, hc, hs⟩, st⟩ := New1.pays x D fV fC b A z (tab_of (moved hZ hw)) hfr hlo m meth c P g ig mk _ X hg hsize hdg hW hn ⟨r1, r2, rfl, hB, F1, F2, hA, hS, hz, l0, l2, hp⟩
  have al' : Z.vm.Alike B.U.vm := hZ.alike.trans X'.warmed.alike
  have hsz : E'.slots.size = D.slots.size := by
    obtain ⟨-, -, -, kB, w1, w2, w3⟩ := q1
    obtain ⟨kB', y1, y2⟩ := al'.2.2 _ _ e3
    rw [q2.2.1] at w1
    cases w1.symm.trans y1
    rw [w3, e5 i3, y2]
  refine ⟨v, B, X', ⟨_, ⟨hv, ?_, ⟨by omega, fun y cy hy hn' => q10 y cy (by simpa using hn') hy, fun y cy hy => ?_⟩, q11, ⟨E', _, q1.1, by rw [q2.2.1]; exact e2, by rw [q2.2.1]; exact e3, by rw [q2.1]; exact obV, fun _ => by rw [hsz]; exact e5 i3⟩,
    ⟨E', cfV, kV, iV, fV, q1.1, gV, stV, by rw [q2.1]; exact knV, by rw [q2.1]; exact obV, by rw [q2.2.1]; exact asV, q3⟩, ⟨E', cfC, kC, iC, fC, q1.1, gC, stC, by rw [q2.1]; exact knV, by rw [q2.1]; exact obV, by rw [q2.2.1]; exact asC, q4⟩,
    ⟨V', ⟨q5.1, State.isArrayOf_alike al'.symm q5.2.1, q5.2.2.1⟩, q6, by rw [← al'.findClass]; exact q7, q8, fun j hj => by have := q9 j hj; rwa [Nat.zero_add] at this⟩, fun O n d w F n1 n2 => ?_⟩, hl, hc, hs⟩, st⟩
  · intro y hy
    simp only [List.mem_cons, List.not_mem_nil, or_false] at hy
    rcases hy with rfl | rfl <;> rfl
  · by_cases q : y = x
    · subst q
      cases hD.symm.trans hy
      exact ⟨E', q1.1, q2.2.1, q2.1, hsz⟩
    · exact ⟨cy, q10 y cy q hy, rfl, rfl, rfl⟩
  · obtain ⟨D3, cf, k, i, f, g1, g2, g3, g4, g5, g6, g7⟩ := F
    cases hD.symm.trans g1
    simp only [RoadKit.slotOf, g2, gV, gC, Option.map_some, Option.getD_some] at n1 n2
    exact ⟨E', cf, k, i, f, q1.1, g2, g3, by rw [q2.1]; exact g4, by rw [q2.1]; exact g5, by rw [q2.2.1]; exact g6, by rw [q2.2.2 f.slot (by simp [n1, n2])]; exact g7⟩
end StrChars.Road
namespace StrChars.Road
open Jvm Sem ClassFile Op Lib Jvm.Stand Jvm.Free Jvm.Free.XT
/-- WHAT COMES BACK, the byte[] as a list of values -/
def QA (Z : State) (x : Addr) (zn : Int32) (cs : List Int32) (h : Heap) (v : Option Value) (h' : Heap) (L : List Loc) : Prop := v = none ∧ (∀ y ∈ L, y.base = x) ∧ RoadKit.Keep h h' [x] ∧ h'.size = h.size + 1 ∧ RoadKit.Exa Z h' x ST ∧ RoadKit.Fld Z h' x ST "value" "[B" (.ref h.size) ∧ RoadKit.Fld Z h' x ST "coder" "B" (.int 0) ∧
  (∃ kb, Z.vm.findClass "[B" = some kb ∧ RoadKit.Arv Z h' h.size kb .byte zn (cs.map fun c => .int (lo8 c)) (.int 0)) ∧
  ∀ (O n d : String) (w : Value), RoadKit.Fld Z h x O n d w → RoadKit.slotOf Z O n d ≠ RoadKit.slotOf Z ST "value" "[B" → RoadKit.slotOf Z O n d ≠ RoadKit.slotOf Z ST "coder" "B" → RoadKit.Fld Z h' x O n d w
/-- **new String(chars) AT A CALL, THE ARRAYS AS LISTS**: the char[] at b holds cs, not empty, no char above 255 -/
theorem backArv {p : Program} {l : Launch} {e : Env} {R : Room} {s : State} {args : Array Value} {below : List Frame} {len W : Nat} {Z : State} {a0 : Array Value} {h : Heap} (hZ : Z.Warmed39 s.vm) (hw : ∀ d ∈ words, d.before a0 Z = true) {kI : Nat} (wi : (Jvm.Cond.instantiable ST kI).before a0 Z = true)
    {x b : Addr} {k : ClassId} {zn z : Int32} {cs : List Int32} {dv v0 c0 : Value} (E : RoadKit.Exa Z h x ST) (V : RoadKit.Fld Z h x ST "value" "[B" v0) (C : RoadKit.Fld Z h x ST "coder" "B" c0) (K : RoadKit.Arv Z h b k .char zn (cs.map Value.int) dv) (S : RoadKit.Sta Z h ST "COMPACT_STRINGS" "Z" (.int z)) (hz : ¬ z = 0)
    (hlen : zn.toNatClampNeg = cs.length) (h0 : 0 < cs.length) (hbig : cs.length ≤ 536870912) (hall : ∀ c ∈ cs, ¬ 255 < c) (hfr : 4 ≤ R.frames) (hlo : W + 65 ≤ R.locals) :
    Back l R p e below s args New1.yN len W (fun P a => a = #[.ref x, .ref b] ∧ P.U.heap = h ∧ P.cells + 1 ≤ R.cells ∧ P.slots + cs.length ≤ R.slots)
      (fun P _ v B => ∃ L, QA Z x zn cs h v B.U.heap L ∧ B.locs = P.locs ++ L ∧ B.cells = P.cells + 1 ∧ B.slots = P.slots + cs.length) := by
  obtain ⟨A, K1, K2, K3, K4, K5, K6⟩ := K
  have e : A.slots.size = cs.length := K3.trans hlen
  have hat : ∀ (i : Nat) (hi : i < cs.length), A.slots[i]? = some (.int cs[i]) := fun i hi => by rw [K5 i (by omega)]; simp [List.getD_eq_getElem?_getD, hi]
  have hcv : ∀ (i : Nat) (hi : i < cs.length), cv A i = cs[i] := fun i hi => by unfold cv; rw [hat i hi]
  have hty : Typed .char A := fun i v hv => by
    have hi : i < A.slots.size := (Array.getElem?_eq_some_iff.mp hv).1
    have q := K5 i hi
    rw [hv] at q
    rw [Option.some.inj q]
    exact K6 i hi
  refine Back.mono (back hZ hw wi E V C K1 hty S hz (by omega) (by omega) (fun i hi => by rw [hcv i (by omega)]; exact hall _ (List.getElem_mem _)) hfr hlo) (fun P a hp => ⟨hp.1, hp.2.1, hp.2.2.1, by rw [e]; exact hp.2.2.2⟩) (fun P a v B hp hq => ?_)
  obtain ⟨L, ⟨q1, q2, q3, q4, q5, q6, q7, ⟨V', v1, v2, v3, v4, v5⟩, q9⟩, hl, hc, hs⟩ := hq
  refine ⟨L, ⟨q1, q2, q3, q4, q5, q6, q7, ⟨V'.cls, v3, V', v1, rfl, by rw [v4, e, hlen], K4, fun i hi => ?_, fun i hi => ?_⟩, q9⟩, hl, hc, by rw [hs, e]⟩
  · have hi' : i < cs.length := by omega
    rw [v5 i (by omega), hcv i hi']; simp [List.getD_eq_getElem?_getD, hi']
  · have hi' : i < cs.length := by omega
    simp only [List.getD_eq_getElem?_getD, List.getElem?_map, List.getElem?_eq_getElem hi', Option.map_some, Option.getD_some]
    exact fits_lo8 _
end StrChars.Road
namespace StrChars.Road
open Jvm Sem ClassFile Op Lib Jvm.Stand Jvm.Free Jvm.Free.XT
/-- WHAT COMES BACK, in the writer's own shape -/
def QV (Z : State) (x : Addr) (N : Int32) (bs : List Int32) (h : Heap) (n0 : Nat) (v : Option Value) (h' : Heap) (L : List Loc) : Prop := v = none ∧ RoadKit.Fr n0 L ∧ RoadKit.Keep h h' [x] ∧ RoadKit.Exa Z h' x ST ∧ RoadKit.Fld Z h' x ST "coder" "B" (.int 0) ∧
  ∃ (t : Addr) (kb : ClassId), n0 ≤ t ∧ h.size ≤ t ∧ ¬ t = x ∧ RoadKit.Fld Z h' x ST "value" "[B" (.ref t) ∧ RoadKit.Arv Z h' t kb .byte N (bs.map Value.int) (.int 0)
/-- **new String(chars) AT A CALL, FOR THE WRITER**: a char[] of n known ints, each 0 to 255 -/
theorem backV {p : Program} {l : Launch} {e : Env} {R : Room} {s : State} {args : Array Value} {below : List Frame} {len W : Nat} {Z : State} {a0 : Array Value} {h : Heap} (hZ : Z.Warmed39 s.vm) (hw : ∀ d ∈ words, d.before a0 Z = true) {kI : Nat} (wi : (Jvm.Cond.instantiable ST kI).before a0 Z = true)
    {x b : Addr} {kC : ClassId} {cs bs : List Int32} {d v0 c0 : Value} {z N : Int32} {n n0 : Nat} (hx0 : n0 ≤ x) (hh0 : n0 ≤ h.size) (E : RoadKit.Exa Z h x ST) (V : RoadKit.Fld Z h x ST "value" "[B" v0) (C : RoadKit.Fld Z h x ST "coder" "B" c0) (K : RoadKit.Arv Z h b kC .char N (cs.map Value.int) d) (S : RoadKit.Sta Z h ST "COMPACT_STRINGS" "Z" (.int z)) (hz : ¬ z = 0)
    (hn : cs.length = n) (hN : N = Int32.ofNat n) (l0 : 0 < n) (l2 : n ≤ 4000) (hp : ∀ c ∈ cs, ¬ c < 0 ∧ ¬ (255 : Int32) < c) (hb : bs = cs.map (fun c => c.toInt8.toInt32)) (hfr : 4 ≤ R.frames) (hlo : W + 65 ≤ R.locals) :
    Back l R p e below s args (⟨"java/lang/String", "<init>", "([C)V"⟩ : MethodName) len W (fun P a => a = #[.ref x, .ref b] ∧ P.U.heap = h ∧ P.cells + 1 ≤ R.cells ∧ P.slots + n ≤ R.slots)
      (fun P _ v B => ∃ L, QV Z x N bs h n0 v B.U.heap L ∧ B.locs = P.locs ++ L ∧ B.cells = P.cells + 1 ∧ B.slots = P.slots + n) := by
  subst hn hN hb
  refine Back.mono (backArv hZ hw wi E V C K S hz (n32 (by omega)) l0 (by omega) (fun c hc => (hp c hc).2) hfr hlo) (fun P a hp => hp) (fun P a v B hp hq => ?_)
  obtain ⟨L, ⟨q1, q2, q3, q4, q5, q6, q7, ⟨kb, v1, v2⟩, q9⟩, hl, hc, hs⟩ := hq
  exact ⟨L, ⟨q1, fun y hy => by rw [q2 y hy]; exact hx0, q3, q5, q7, h.size, kb, hh0, Nat.le_refl _, Nat.ne_of_gt E.lt, q6, by rw [List.map_map]; exact v2⟩, hl, hc, hs⟩
end StrChars.Road
end Jvm.Pilot.@@N@@
namespace Jvm.RoadKit
open Sem ClassFile Op Lib Jvm.Stand Jvm.Free Jvm.LawKit
section New
variable {p : Program} {l : Launch} {e : Env} {R : Room} {s : State} {m : MethodId} {args : Array Value} {below : List Frame} {meth : Method} {c : Code} {T : State} {locs : List Loc} {cells slots : Nat}
theorem retI (X : Stand p l e R s m args below meth c T locs cells slots) (hx : p.tables.exec = Jvm.exec) {pc : Nat} {Ls : Array Slot} {z : Int32} {rest : List Value} (hret : meth.sig.returnType = some .int) (hd : decode c.code pc = .ok (.ireturn, 1)) {fs : List Frame}
    (hl : ∀ (f : JFrame) (acts : List Action), f.method = m → f.locked = none → f.entered = [] → (doReturn e (T.setTop f) acts (some (.int z))).1 = T.setFrames fs) : Steps p.tables e below (T.setTop (mkF m pc Ls (.int z :: rest))) (T.setFrames fs) := by
  have hm' : T.vm.method? m = some meth := X.method'
  have hn : narrow .int (.int z) = .int z := rfl
  show Steps p.tables e below (T.setTop { method := m, pc := pc, locals := Ls, stack := _ :: rest, locked := none }) _
  jvm_step X.here [X.here.top, hx, hd, hm', hret, hn]
  first | (intro acts; rw [hl _ acts rfl rfl rfl]) | rw [hl _ _ rfl rfl rfl]
  exact Steps.refl _
end New
end Jvm.RoadKit
namespace Jvm.Pilot.@@N@@
open Jvm Jvm.ClassFile Sem Op Lib Jvm.Free Jvm.Stand Jvm.LawKit Jvm.RoadKit Bundle Jvm.Pilot.@@N@@.Jvm.D
theorem own_nar {x : Int32} (h : x = 0 ∨ x = 1) : nar .boolean x = x := by rcases h with rfl | rfl <;> decide
theorem own_fit {x : Int32} (h : x = 0 ∨ x = 1) : fits .boolean (.int x) = true := by rcases h with rfl | rfl <;> decide
theorem own_one {x : Int32} (h : x = 0 ∨ x = 1) (n : ¬ x = (0 : Int32)) : x = 1 := h.elim (fun q => absurd q n) id
theorem own_chr (u : Int32) : ∀ c ∈ [nar .char ((u &&& (255 : Int32)).toUInt32.toUInt16.toUInt32.toInt32)], ¬ c < 0 ∧ ¬ (255 : Int32) < c := by
  intro c hc
  simp only [List.mem_cons, List.not_mem_nil, or_false] at hc
  subst hc
  rw [show nar .char ((u &&& (255 : Int32)).toUInt32.toUInt16.toUInt32.toInt32) = u &&& 255 from by simp only [nar, i2c_mask]]
  have m := c_mask u 255 8 (by decide) (by decide)
  simp only [Int32.lt_iff_toInt_lt]
  have e4 : (0 : Int32).toInt = 0 := by decide
  have e5 : (255 : Int32).toInt = 255 := by decide
  omega
theorem ef_rec (m : MethodId) (x0 : Addr) : entryFrame m #[(.ref x0)] 1 = mkF m 0 #[.val (.ref x0)] [] := by first | (simp [entryFrame, mkF, argsToLocals, Value.category]; done) | rfl
def Q_rec (Z : State) (a1 : Addr) (h0 : Heap) (n0 : Nat) (v : Option Value) (h : Heap) (L : List Loc) : Prop := v = none ∧ Fr n0 L ∧ h = h0
theorem pn_0 : plainName "java/lang/Record" = true := by first | (simp [plainName, overriddenIn]; done) | decide +kernel
theorem d8_0 : decode jdk_30_method_1_code 0 = .ok (.aload_n 0, 1) := by decide +kernel
theorem d8_1 : decode jdk_30_method_1_code 1 = .ok (.invokespecial 1, 3) := by decide +kernel
theorem d8_4 : decode jdk_30_method_1_code 4 = .ok (.return_, 1) := by decide +kernel
set_option maxRecDepth 65536 in
set_option maxHeartbeats 40000000 in
theorem rm_rec (l : Launch) (Z : State) (a0 : Array Value) (hw : ∀ d ∈ tables_1, d.before a0 Z = true) (ws : List Jvm.Cond) (a1 : Addr) (h0 : Heap) (n0 : Nat) (Z0 : n0 ≤ h0.size) :
    MetFree l (⟨"java/lang/Record", "<init>", "()V"⟩ : MethodName) (head1 (Jvm.Cond.code (⟨"java/lang/Record", "<init>", "()V"⟩ : MethodName) jdk_30_method_1_code 1 none :: ws) ({ frames := 1, cells := 0, slots := 0, locals := 12 } : Room)) (fun a U => a = #[(.ref a1)] ∧ Z.Warmed39 U.vm ∧ U.heap = h0) (fun _ _ _ _ _ => True) (fun _ U o U' => ∃ v L, o = .returned v ∧ Q_rec Z a1 h0 n0 v U'.heap L ∧ FrameEnd U o U' L ({ frames := 1, cells := 0, slots := 0, locals := 12 } : Room).cells ({ frames := 1, cells := 0, slots := 0, locals := 12 } : Room).slots) := by
  refine MetFree.of_bodySF (plainFor_of_name pn_0) hisR ?_
  intro p e s m args below meth c s₁ Bd hml0 hP hK
  obtain ⟨rfl, hZ, hh⟩ := hP
  have hx := Bd.exec
  have hby := Bd.bytes
  have hml : c.maxLocals = 1 := hml0
  have hown : s.vm.findClass "java/lang/Record" = some m.cls := findClass_of_methodNamed Bd.named
  have hnm := (name_of_methodNamed Bd.named Bd.method).1
  have X0 : Stand p l e ({ frames := 1, cells := 0, slots := 0, locals := 12 } : Room) s m #[(.ref a1)] below meth c s₁ [] 0 0 := Stand.of_body Bd
  have e0 : s₁.heap = h0 := by rw [← hh, Bd.state]; rfl
  have N0 := Fr.nil n0
  have K0 : Keep h0 h0 [] := Keep.refl h0 []
  have P0 : ∀ t, Steps p.tables e below (s₁.setTop (mkF m 0 #[.val (.ref a1)] [])) t → Steps p.tables e below (s₁.setTop (entryFrame m #[(.ref a1)] 1)) t := fun t k => castTop (ef_rec m a1) k
  obtain ⟨T1001, X1001, e1001, st1001⟩ := initO X0 hx hZ hown (hw _ (List.mem_of_getElem? (i := 41) rfl)) (hw _ (List.mem_of_getElem? (i := 12) rfl)) (hw _ (List.mem_of_getElem? (i := 13) rfl)) e0 (g := (mkF m 1 #[.val (.ref a1)] [(.ref a1)])) rfl (by rw [hml]; rfl) rfl (hb hby d8_1) (by decide) (W := 0) (by show 2 * 0 + _ ≤ _; exact Nat.le_of_eq rfl) (by decide)
  have P1002 : ∀ t, Steps p.tables e below (T1001.setTop (mkF m 4 #[.val (.ref a1)] [])) t → Steps p.tables e below (s₁.setTop (entryFrame m #[(.ref a1)] 1)) t := fun t k => P0 t (by
    refine XS.aloadN X0.here hx rfl (hb hby d8_0) rfl rfl ?_
    show Steps p.tables e below (s₁.setTop (mkF m 1 #[.val (.ref a1)] [(.ref a1)])) _
    refine st1001 _ ?_
    show Steps p.tables e below (T1001.setTop (mkF m 4 #[.val (.ref a1)] [])) _
    exact k)
  obtain ⟨fs, hr, hrun, hended, hW, hsame⟩ := X1001.leave (v := none) (fun _ => rfl)
  refine ⟨_, _, P1002 _ ?_, hrun, hended, _, _, rfl, ?_, ⟨_, rfl⟩, hW, hsame.mono (by decide) (by decide)⟩
  · exact X1001.returnOut hx Bd.returns (hb hby d8_4) hr
  · show Q_rec Z a1 h0 n0 _ T1001.heap _
    rw [e1001]
    exact ⟨rfl, N0, rfl⟩
theorem ef_acl (m : MethodId) (x0 : Addr) : entryFrame m #[(.ref x0)] 1 = mkF m 0 #[.val (.ref x0)] [] := by first | (simp [entryFrame, mkF, argsToLocals, Value.category]; done) | rfl
def Q_acl (Z : State) (a1 : Addr) (h0 : Heap) (n0 : Nat) (v : Option Value) (h : Heap) (L : List Loc) : Prop := v = none ∧ Fr n0 L ∧ h = h0
theorem pn_1 : plainName "java/util/AbstractCollection" = true := by first | (simp [plainName, overriddenIn]; done) | decide +kernel
theorem d16_0 : decode jdk_22_method_1_code 0 = .ok (.aload_n 0, 1) := by decide +kernel
theorem d16_1 : decode jdk_22_method_1_code 1 = .ok (.invokespecial 1, 3) := by decide +kernel
theorem d16_4 : decode jdk_22_method_1_code 4 = .ok (.return_, 1) := by decide +kernel
set_option maxRecDepth 65536 in
set_option maxHeartbeats 40000000 in
theorem rm_acl (l : Launch) (Z : State) (a0 : Array Value) (hw : ∀ d ∈ tables_1, d.before a0 Z = true) (ws : List Jvm.Cond) (a1 : Addr) (h0 : Heap) (n0 : Nat) (Z0 : n0 ≤ h0.size) :
    MetFree l (⟨"java/util/AbstractCollection", "<init>", "()V"⟩ : MethodName) (head1 (Jvm.Cond.code (⟨"java/util/AbstractCollection", "<init>", "()V"⟩ : MethodName) jdk_22_method_1_code 1 none :: ws) ({ frames := 1, cells := 0, slots := 0, locals := 12 } : Room)) (fun a U => a = #[(.ref a1)] ∧ Z.Warmed39 U.vm ∧ U.heap = h0) (fun _ _ _ _ _ => True) (fun _ U o U' => ∃ v L, o = .returned v ∧ Q_acl Z a1 h0 n0 v U'.heap L ∧ FrameEnd U o U' L ({ frames := 1, cells := 0, slots := 0, locals := 12 } : Room).cells ({ frames := 1, cells := 0, slots := 0, locals := 12 } : Room).slots) := by
  refine MetFree.of_bodySF (plainFor_of_name pn_1) hisR ?_
  intro p e s m args below meth c s₁ Bd hml0 hP hK
  obtain ⟨rfl, hZ, hh⟩ := hP
  have hx := Bd.exec
  have hby := Bd.bytes
  have hml : c.maxLocals = 1 := hml0
  have hown : s.vm.findClass "java/util/AbstractCollection" = some m.cls := findClass_of_methodNamed Bd.named
  have hnm := (name_of_methodNamed Bd.named Bd.method).1
  have X0 : Stand p l e ({ frames := 1, cells := 0, slots := 0, locals := 12 } : Room) s m #[(.ref a1)] below meth c s₁ [] 0 0 := Stand.of_body Bd
  have e0 : s₁.heap = h0 := by rw [← hh, Bd.state]; rfl
  have N0 := Fr.nil n0
  have K0 : Keep h0 h0 [] := Keep.refl h0 []
  have P0 : ∀ t, Steps p.tables e below (s₁.setTop (mkF m 0 #[.val (.ref a1)] [])) t → Steps p.tables e below (s₁.setTop (entryFrame m #[(.ref a1)] 1)) t := fun t k => castTop (ef_acl m a1) k
  obtain ⟨T1003, X1003, e1003, st1003⟩ := initO X0 hx hZ hown (hw _ (List.mem_of_getElem? (i := 106) rfl)) (hw _ (List.mem_of_getElem? (i := 12) rfl)) (hw _ (List.mem_of_getElem? (i := 13) rfl)) e0 (g := (mkF m 1 #[.val (.ref a1)] [(.ref a1)])) rfl (by rw [hml]; rfl) rfl (hb hby d16_1) (by decide) (W := 0) (by show 2 * 0 + _ ≤ _; exact Nat.le_of_eq rfl) (by decide)
  have P1004 : ∀ t, Steps p.tables e below (T1003.setTop (mkF m 4 #[.val (.ref a1)] [])) t → Steps p.tables e below (s₁.setTop (entryFrame m #[(.ref a1)] 1)) t := fun t k => P0 t (by
    refine XS.aloadN X0.here hx rfl (hb hby d16_0) rfl rfl ?_
    show Steps p.tables e below (s₁.setTop (mkF m 1 #[.val (.ref a1)] [(.ref a1)])) _
    refine st1003 _ ?_
    show Steps p.tables e below (T1003.setTop (mkF m 4 #[.val (.ref a1)] [])) _
    exact k)
  obtain ⟨fs, hr, hrun, hended, hW, hsame⟩ := X1003.leave (v := none) (fun _ => rfl)
  refine ⟨_, _, P1004 _ ?_, hrun, hended, _, _, rfl, ?_, ⟨_, rfl⟩, hW, hsame.mono (by decide) (by decide)⟩
  · exact X1003.returnOut hx Bd.returns (hb hby d16_4) hr
  · show Q_acl Z a1 h0 n0 _ T1003.heap _
    rw [e1003]
    exact ⟨rfl, N0, rfl⟩
theorem ef_adi (m : MethodId) (x0 : Addr) : entryFrame m #[(.ref x0)] 1 = mkF m 0 #[.val (.ref x0)] [] := by first | (simp [entryFrame, mkF, argsToLocals, Value.category]; done) | rfl
def Q_adi (Z : State) (a1 : Addr) (h0 : Heap) (n0 : Nat) (v : Option Value) (h : Heap) (L : List Loc) : Prop := v = none ∧ Fr n0 L ∧ Keep h0 h [a1]
theorem pn_2 : plainName "java/util/ArrayDeque" = true := by first | (simp [plainName, overriddenIn]; done) | decide +kernel
theorem d15_0 : decode jdk_21_method_3_code 0 = .ok (.aload_n 0, 1) := by decide +kernel
theorem d15_1 : decode jdk_21_method_3_code 1 = .ok (.invokespecial 42, 3) := by decide +kernel
theorem pd_0 : parseMethodDescriptor "()V" = some ⟨[], none⟩ := by decide +kernel
theorem d15_4 : decode jdk_21_method_3_code 4 = .ok (.aload_n 0, 1) := by decide +kernel
theorem d15_5 : decode jdk_21_method_3_code 5 = .ok (.bipush 17, 2) := by decide +kernel
theorem d15_7 : decode jdk_21_method_3_code 7 = .ok (.anewarray 47, 3) := by decide +kernel
theorem d15_10 : decode jdk_21_method_3_code 10 = .ok (.putfield 3, 3) := by decide +kernel
theorem d15_13 : decode jdk_21_method_3_code 13 = .ok (.return_, 1) := by decide +kernel
set_option maxRecDepth 65536 in
set_option maxHeartbeats 40000000 in
theorem rm_adi (l : Launch) (Z : State) (a0 : Array Value) (hw : ∀ d ∈ tables_1, d.before a0 Z = true) (ws : List Jvm.Cond) (a1 : Addr) (h0 : Heap) (n0 : Nat) (Z0 : n0 ≤ h0.size) (E1 : Exa Z h0 a1 "java/util/ArrayDeque") (F0 : Fld Z h0 a1 "java/util/ArrayDeque" "elements" "[Ljava/lang/Object;" .null) (g1 : n0 ≤ a1) :
    MetFree l (⟨"java/util/ArrayDeque", "<init>", "()V"⟩ : MethodName) (head1 (Jvm.Cond.code (⟨"java/util/ArrayDeque", "<init>", "()V"⟩ : MethodName) jdk_21_method_3_code 1 none :: ws) ({ frames := 2, cells := 1, slots := 17, locals := 24 } : Room)) (fun a U => a = #[(.ref a1)] ∧ Z.Warmed39 U.vm ∧ U.heap = h0) (fun _ _ _ _ _ => True) (fun _ U o U' => ∃ v L, o = .returned v ∧ Q_adi Z a1 h0 n0 v U'.heap L ∧ FrameEnd U o U' L ({ frames := 2, cells := 1, slots := 17, locals := 24 } : Room).cells ({ frames := 2, cells := 1, slots := 17, locals := 24 } : Room).slots) := by
  refine MetFree.of_bodySF (plainFor_of_name pn_2) hisR ?_
  intro p e s m args below meth c s₁ Bd hml0 hP hK
  obtain ⟨rfl, hZ, hh⟩ := hP
  have hx := Bd.exec
  have hby := Bd.bytes
  have hml : c.maxLocals = 1 := hml0
  have hown : s.vm.findClass "java/util/ArrayDeque" = some m.cls := findClass_of_methodNamed Bd.named
  have hnm := (name_of_methodNamed Bd.named Bd.method).1
  have X0 : Stand p l e ({ frames := 2, cells := 1, slots := 17, locals := 24 } : Room) s m #[(.ref a1)] below meth c s₁ [] 0 0 := Stand.of_body Bd
  have e0 : s₁.heap = h0 := by rw [← hh, Bd.state]; rfl
  have N0 := Fr.nil n0
  have K0 : Keep h0 h0 [a1] := Keep.refl h0 [a1]
  have P0 : ∀ t, Steps p.tables e below (s₁.setTop (mkF m 0 #[.val (.ref a1)] [])) t → Steps p.tables e below (s₁.setTop (entryFrame m #[(.ref a1)] 1)) t := fun t k => castTop (ef_adi m a1) k
  obtain ⟨_, _, ⟨T1005, L1005, k1005, n1005⟩, -, X1005, ⟨Lc1005, hQ1005, l1005, y1005, z1005⟩, st1005⟩ := X0.specialBack hx (y := (⟨"java/util/AbstractCollection", "<init>", "()V"⟩ : MethodName)) rfl hown (mvT hZ (hw _ (List.mem_of_getElem? (i := 100) rfl))) (mvT hZ (hw _ (List.mem_of_getElem? (i := 101) rfl))) (mvT hZ (hw _ (List.mem_of_getElem? (i := 105) rfl))) (by decide) (backOf (W := 0) (rm_acl l Z a0 hw [] a1 h0 n0 Z0 ) hZ (hw _ (List.mem_of_getElem? (i := 105) rfl)) (hw _ (List.mem_of_getElem? (i := 104) rfl)) (by decide) (by decide)) (g := (mkF m 1 #[.val (.ref a1)] [(.ref a1)])) rfl (by rw [hml]; rfl) (Steps.refl _) (a := a1) (argsL := []) (rest := []) (lenOf pd_0 rfl) rfl (by show 2 * 0 + _ ≤ _; exact Nat.le_of_eq rfl) (hb hby d15_1) (fun _ _ => ⟨rfl, e0, (by decide : 0 + 0 ≤ _), (by decide : 0 + 0 ≤ _)⟩)
  dsimp only [Pt.U, Pt.locs, Pt.cells, Pt.slots] at X1005 l1005 y1005 z1005 st1005 hQ1005
  subst l1005 y1005 z1005
  obtain ⟨rfl, N1005q, e1⟩ := hQ1005
  have N1005 := Fr.app N0 N1005q
  obtain ⟨T1006, h1006, k1006, X1006, e1006, E1006, A1006, O1006, st1006⟩ := newR X1005 hx hZ hown (hw _ (List.mem_of_getElem? (i := 107) rfl)) (hw _ (List.mem_of_getElem? (i := 108) rfl)) e1 (g := (mkF m 7 #[.val (.ref a1)] [(.int (17 : Int32)), (.ref a1)])) rfl (hb hby d15_7) rfl (by decide) (cap := 17) (by decide) (by decide) (by decide) (by decide)
  obtain ⟨b1006, g1006⟩ : ∃ z, z = h0.size := ⟨_, rfl⟩
  rw [← g1006] at A1006 st1006
  have ne_a1_b1006 : a1 ≠ b1006 := Nat.ne_of_lt (Nat.lt_of_lt_of_le E1.lt (Nat.le_of_eq g1006.symm))
  have g_b1006 : n0 ≤ b1006 := Nat.le_trans Z0 (Nat.le_of_eq g1006.symm)
  have sz_b1006 : h0.size ≤ b1006 := Nat.le_trans K0.1 (Nat.le_of_eq g1006.symm)
  have c1007_0 := E1.ext E1006
  have c1007_1 := F0.ext E1006
  have Z1006 : n0 ≤ h1006.size := Nat.le_trans Z0 E1006.1
  have K1006 : Keep h0 h1006 [a1] := K0.ext E1006
  have V1006 := Arv.new A1006 (by decide)
  obtain ⟨T1008, h1008, X1008, e1008, W1008, st1008⟩ := putF X1006 hx hZ hown (host := "") (Or.inl (hw _ (List.mem_of_getElem? (i := 109) rfl))) Via.refl e1006 c1007_1 c1007_0 (Or.inl (hw _ (List.mem_of_getElem? (i := 110) rfl))) (hw _ (List.mem_of_getElem? (i := 95) rfl)) (ty := (.array (.object "java/lang/Object"))) (by decide) rfl rfl (g := (mkF m 10 #[.val (.ref a1)] [(.ref b1006), (.ref a1)])) rfl rfl (hb hby d15_10)
  have Fw1008 := c1007_1.same W1008
  have c1009_0 := c1007_0.wr W1008
  have c1009_2 := V1006.other W1008 (Ne.symm ne_a1_b1006)
  have Z1008 : n0 ≤ h1008.size := Nat.le_trans Z1006 (Nat.le_of_eq W1008.size.symm)
  have K1008 : Keep h0 h1008 [a1] := K1006.wr W1008 (Or.inl (List.mem_of_getElem? (i := 0) rfl))
  have N1008 := Fr.snoc X1008 N1005 g1
  have P1010 : ∀ t, Steps p.tables e below (T1008.setTop (mkF m 13 #[.val (.ref a1)] [])) t → Steps p.tables e below (s₁.setTop (entryFrame m #[(.ref a1)] 1)) t := fun t k => P0 t (by
    refine XS.aloadN X0.here hx rfl (hb hby d15_0) rfl rfl ?_
    show Steps p.tables e below (s₁.setTop (mkF m 1 #[.val (.ref a1)] [(.ref a1)])) _
    refine st1005.trans ?_
    show Steps p.tables e below (T1005.setTop (mkF m 4 #[.val (.ref a1)] [])) _
    refine XS.aloadN X1005.here hx rfl (hb hby d15_4) rfl rfl ?_
    show Steps p.tables e below (T1005.setTop (mkF m 5 #[.val (.ref a1)] [(.ref a1)])) _
    refine XS.bipush X1005.here hx rfl (hb hby d15_5) ?_
    show Steps p.tables e below (T1005.setTop (mkF m 7 #[.val (.ref a1)] [(.int (17 : Int32)), (.ref a1)])) _
    refine st1006 _ ?_
    show Steps p.tables e below (T1006.setTop (mkF m 10 #[.val (.ref a1)] [(.ref b1006), (.ref a1)])) _
    refine st1008 _ ?_
    show Steps p.tables e below (T1008.setTop (mkF m 13 #[.val (.ref a1)] [])) _
    exact k)
  obtain ⟨fs, hr, hrun, hended, hW, hsame⟩ := X1008.leave (v := none) (fun _ => rfl)
  refine ⟨_, _, P1010 _ ?_, hrun, hended, _, _, rfl, ?_, ⟨_, rfl⟩, hW, hsame.mono (by decide) (by decide)⟩
  · exact X1008.returnOut hx Bd.returns (hb hby d15_13) hr
  · show Q_adi Z a1 h0 n0 _ T1008.heap _
    rw [e1008]
    exact ⟨rfl, N1008, K1008⟩
theorem ef_lvi (m : MethodId) (x0 : Addr) : entryFrame m #[(.ref x0), .null] 2 = mkF m 0 #[.val (.ref x0), .val .null] [] := by first | (simp [entryFrame, mkF, argsToLocals, Value.category]; done) | rfl
def Q_lvi (Z : State) (a1 : Addr) (ms : Addr) (h0 : Heap) (n0 : Nat) (v : Option Value) (h : Heap) (L : List Loc) : Prop := v = none ∧ Fr n0 L ∧ Keep h0 h [a1]
theorem pn_3 : plainName "com/example/quorumline/quorumline/sim/Level" = true := by first | (simp [plainName, overriddenIn]; done) | decide +kernel
theorem d17_0 : decode prog_78_method_1_code 0 = .ok (.aload_n 0, 1) := by decide +kernel
theorem d17_1 : decode prog_78_method_1_code 1 = .ok (.invokespecial 1, 3) := by decide +kernel
theorem d17_4 : decode prog_78_method_1_code 4 = .ok (.aload_n 0, 1) := by decide +kernel
theorem d17_5 : decode prog_78_method_1_code 5 = .ok (.getstatic 7, 3) := by decide +kernel
theorem d17_8 : decode prog_78_method_1_code 8 = .ok (.putfield 13, 3) := by decide +kernel
theorem d17_11 : decode prog_78_method_1_code 11 = .ok (.aload_n 0, 1) := by decide +kernel
theorem d17_12 : decode prog_78_method_1_code 12 = .ok (.aload_n 1, 1) := by decide +kernel
theorem d17_13 : decode prog_78_method_1_code 13 = .ok (.putfield 18, 3) := by decide +kernel
theorem d17_16 : decode prog_78_method_1_code 16 = .ok (.return_, 1) := by decide +kernel
set_option maxRecDepth 65536 in
set_option maxHeartbeats 40000000 in
theorem rm_lvi (l : Launch) (Z : State) (a0 : Array Value) (hw : ∀ d ∈ tables_1, d.before a0 Z = true) (ws : List Jvm.Cond) (a1 : Addr) (ms : Addr) (h0 : Heap) (n0 : Nat) (Z0 : n0 ≤ h0.size) (E1 : Exa Z h0 a1 "com/example/quorumline/quorumline/sim/Level") (F0 : Fld Z h0 a1 "com/example/quorumline/quorumline/sim/Level" "since" "Lcom/example/quorumline/quorumline/sim/Moment;" .null) (F1 : Fld Z h0 a1 "com/example/quorumline/quorumline/sim/Level" "calendar" "Lcom/example/quorumline/quorumline/sim/Calendar;" .null) (g1 : n0 ≤ a1) (SM : Sta Z Z.heap "com/example/quorumline/quorumline/sim/Moment" "START" "Lcom/example/quorumline/quorumline/sim/Moment;" (.ref ms)) (O1 : Old Z n0 h0) :
    MetFree l (⟨"com/example/quorumline/quorumline/sim/Level", "<init>", "(Lcom/example/quorumline/quorumline/sim/Calendar;)V"⟩ : MethodName) (head1 (Jvm.Cond.code (⟨"com/example/quorumline/quorumline/sim/Level", "<init>", "(Lcom/example/quorumline/quorumline/sim/Calendar;)V"⟩ : MethodName) prog_78_method_1_code 2 none :: ws) ({ frames := 1, cells := 0, slots := 0, locals := 12 } : Room)) (fun a U => a = #[(.ref a1), .null] ∧ Z.Warmed39 U.vm ∧ U.heap = h0) (fun _ _ _ _ _ => True) (fun _ U o U' => ∃ v L, o = .returned v ∧ Q_lvi Z a1 ms h0 n0 v U'.heap L ∧ FrameEnd U o U' L ({ frames := 1, cells := 0, slots := 0, locals := 12 } : Room).cells ({ frames := 1, cells := 0, slots := 0, locals := 12 } : Room).slots) := by
  refine MetFree.of_bodySF (plainFor_of_name pn_3) hisR ?_
  intro p e s m args below meth c s₁ Bd hml0 hP hK
  obtain ⟨rfl, hZ, hh⟩ := hP
  have hx := Bd.exec
  have hby := Bd.bytes
  have hml : c.maxLocals = 2 := hml0
  have hown : s.vm.findClass "com/example/quorumline/quorumline/sim/Level" = some m.cls := findClass_of_methodNamed Bd.named
  have hnm := (name_of_methodNamed Bd.named Bd.method).1
  have X0 : Stand p l e ({ frames := 1, cells := 0, slots := 0, locals := 12 } : Room) s m #[(.ref a1), .null] below meth c s₁ [] 0 0 := Stand.of_body Bd
  have e0 : s₁.heap = h0 := by rw [← hh, Bd.state]; rfl
  have N0 := Fr.nil n0
  have K0 : Keep h0 h0 [a1] := Keep.refl h0 [a1]
  have P0 : ∀ t, Steps p.tables e below (s₁.setTop (mkF m 0 #[.val (.ref a1), .val .null] [])) t → Steps p.tables e below (s₁.setTop (entryFrame m #[(.ref a1), .null] 2)) t := fun t k => castTop (ef_lvi m a1) k
  obtain ⟨T1011, X1011, e1011, st1011⟩ := initO X0 hx hZ hown (hw _ (List.mem_of_getElem? (i := 123) rfl)) (hw _ (List.mem_of_getElem? (i := 12) rfl)) (hw _ (List.mem_of_getElem? (i := 13) rfl)) e0 (g := (mkF m 1 #[.val (.ref a1), .val .null] [(.ref a1)])) rfl (by rw [hml]; rfl) rfl (hb hby d17_1) (by decide) (W := 0) (by show 2 * 0 + _ ≤ _; exact Nat.le_of_eq rfl) (by decide)
  obtain ⟨T1012, X1012, e1012, st1012⟩ := getS2 X1011 hx hZ hown (host := "") (Or.inl (hw _ (List.mem_of_getElem? (i := 124) rfl))) Via.refl e1011 (SM.ext O1.2) (g := (mkF m 5 #[.val (.ref a1), .val .null] [(.ref a1)])) rfl (hb hby d17_5)
  obtain ⟨T1013, h1013, X1013, e1013, W1013, st1013⟩ := putF X1012 hx hZ hown (host := "") (Or.inl (hw _ (List.mem_of_getElem? (i := 127) rfl))) Via.refl e1012 F0 E1 (Or.inl (hw _ (List.mem_of_getElem? (i := 128) rfl))) (hw _ (List.mem_of_getElem? (i := 118) rfl)) (ty := (.object "com/example/quorumline/quorumline/sim/Moment")) (by decide) rfl rfl (g := (mkF m 8 #[.val (.ref a1), .val .null] [(.ref ms), (.ref a1)])) rfl rfl (hb hby d17_8)
  have Fw1013 := F0.same W1013
  have c1014_0 := E1.wr W1013
  have c1014_2 := F1.other W1013 (Or.inr (slot_ne (Or.inr (hw _ (List.mem_of_getElem? (i := 130) rfl))) (Or.inl (hw _ (List.mem_of_getElem? (i := 128) rfl))) (by decide) (t := (.object "com/example/quorumline/quorumline/sim/Calendar")) (t' := (.object "com/example/quorumline/quorumline/sim/Moment")) (by decide) (by decide)))
  have c1014_3 := O1.wr W1013 g1
  have Z1013 : n0 ≤ h1013.size := Nat.le_trans Z0 (Nat.le_of_eq W1013.size.symm)
  have K1013 : Keep h0 h1013 [a1] := K0.wr W1013 (Or.inl (List.mem_of_getElem? (i := 0) rfl))
  have N1013 := Fr.snoc X1013 N0 g1
  obtain ⟨T1015, h1015, X1015, e1015, W1015, st1015⟩ := putF X1013 hx hZ hown (host := "") (Or.inl (hw _ (List.mem_of_getElem? (i := 129) rfl))) Via.refl e1013 c1014_2 c1014_0 (Or.inr ⟨(hw _ (List.mem_of_getElem? (i := 130) rfl)), rfl, hnm⟩) (hw _ (List.mem_of_getElem? (i := 118) rfl)) (ty := (.object "com/example/quorumline/quorumline/sim/Calendar")) (by decide) rfl rfl (g := (mkF m 13 #[.val (.ref a1), .val .null] [.null, (.ref a1)])) rfl rfl (hb hby d17_13)
  have Fw1015 := c1014_2.same W1015
  have c1016_0 := c1014_0.wr W1015
  have c1016_1 := Fw1013.other W1015 (Or.inr (slot_ne (Or.inl (hw _ (List.mem_of_getElem? (i := 128) rfl))) (Or.inr (hw _ (List.mem_of_getElem? (i := 130) rfl))) (by decide) (t := (.object "com/example/quorumline/quorumline/sim/Moment")) (t' := (.object "com/example/quorumline/quorumline/sim/Calendar")) (by decide) (by decide)))
  have c1016_3 := c1014_3.wr W1015 g1
  have Z1015 : n0 ≤ h1015.size := Nat.le_trans Z1013 (Nat.le_of_eq W1015.size.symm)
  have K1015 : Keep h0 h1015 [a1] := K1013.wr W1015 (Or.inl (List.mem_of_getElem? (i := 0) rfl))
  have N1015 := Fr.snoc X1015 N1013 g1
  have P1017 : ∀ t, Steps p.tables e below (T1015.setTop (mkF m 16 #[.val (.ref a1), .val .null] [])) t → Steps p.tables e below (s₁.setTop (entryFrame m #[(.ref a1), .null] 2)) t := fun t k => P0 t (by
    refine XS.aloadN X0.here hx rfl (hb hby d17_0) rfl rfl ?_
    show Steps p.tables e below (s₁.setTop (mkF m 1 #[.val (.ref a1), .val .null] [(.ref a1)])) _
    refine st1011 _ ?_
    show Steps p.tables e below (T1011.setTop (mkF m 4 #[.val (.ref a1), .val .null] [])) _
    refine XS.aloadN X1011.here hx rfl (hb hby d17_4) rfl rfl ?_
    show Steps p.tables e below (T1011.setTop (mkF m 5 #[.val (.ref a1), .val .null] [(.ref a1)])) _
    refine st1012 _ ?_
    show Steps p.tables e below (T1012.setTop (mkF m 8 #[.val (.ref a1), .val .null] [(.ref ms), (.ref a1)])) _
    refine st1013 _ ?_
    show Steps p.tables e below (T1013.setTop (mkF m 11 #[.val (.ref a1), .val .null] [])) _
    refine XS.aloadN X1013.here hx rfl (hb hby d17_11) rfl rfl ?_
    show Steps p.tables e below (T1013.setTop (mkF m 12 #[.val (.ref a1), .val .null] [(.ref a1)])) _
    refine XS.aloadN X1013.here hx rfl (hb hby d17_12) rfl rfl ?_
    show Steps p.tables e below (T1013.setTop (mkF m 13 #[.val (.ref a1), .val .null] [.null, (.ref a1)])) _
    refine st1015 _ ?_
    show Steps p.tables e below (T1015.setTop (mkF m 16 #[.val (.ref a1), .val .null] [])) _
    exact k)
  obtain ⟨fs, hr, hrun, hended, hW, hsame⟩ := X1015.leave (v := none) (fun _ => rfl)
  refine ⟨_, _, P1017 _ ?_, hrun, hended, _, _, rfl, ?_, ⟨_, rfl⟩, hW, hsame.mono (by decide) (by decide)⟩
  · exact X1015.returnOut hx Bd.returns (hb hby d17_16) hr
  · show Q_lvi Z a1 ms h0 n0 _ T1015.heap _
    rw [e1015]
    exact ⟨rfl, N1015, K1015⟩
theorem ef_svi (m : MethodId) (x0 : Addr) : entryFrame m #[(.ref x0), .null, .null] 3 = mkF m 0 #[.val (.ref x0), .val .null, .val .null] [] := by first | (simp [entryFrame, mkF, argsToLocals, Value.category]; done) | rfl
def Q_svi (Z : State) (a1 : Addr) (ms : Addr) (h0 : Heap) (n0 : Nat) (v : Option Value) (h : Heap) (L : List Loc) : Prop := v = none ∧ Fr n0 L ∧ Keep h0 h [a1]
theorem pn_4 : plainName "com/example/quorumline/quorumline/sim/Server" = true := by first | (simp [plainName, overriddenIn]; done) | decide +kernel
theorem d14_0 : decode prog_91_method_1_code 0 = .ok (.aload_n 0, 1) := by decide +kernel
theorem d14_1 : decode prog_91_method_1_code 1 = .ok (.invokespecial 1, 3) := by decide +kernel
theorem d14_4 : decode prog_91_method_1_code 4 = .ok (.aload_n 0, 1) := by decide +kernel
theorem d14_5 : decode prog_91_method_1_code 5 = .ok (.new 7, 3) := by decide +kernel
theorem d14_8 : decode prog_91_method_1_code 8 = .ok (.dup, 1) := by decide +kernel
theorem d14_9 : decode prog_91_method_1_code 9 = .ok (.invokespecial 9, 3) := by decide +kernel
theorem d14_12 : decode prog_91_method_1_code 12 = .ok (.putfield 10, 3) := by decide +kernel
theorem d14_15 : decode prog_91_method_1_code 15 = .ok (.aload_n 0, 1) := by decide +kernel
theorem d14_16 : decode prog_91_method_1_code 16 = .ok (.aload_n 1, 1) := by decide +kernel
theorem d14_17 : decode prog_91_method_1_code 17 = .ok (.putfield 16, 3) := by decide +kernel
theorem d14_20 : decode prog_91_method_1_code 20 = .ok (.aload_n 0, 1) := by decide +kernel
theorem d14_21 : decode prog_91_method_1_code 21 = .ok (.aload_n 2, 1) := by decide +kernel
theorem d14_22 : decode prog_91_method_1_code 22 = .ok (.putfield 20, 3) := by decide +kernel
theorem d14_25 : decode prog_91_method_1_code 25 = .ok (.aload_n 0, 1) := by decide +kernel
theorem d14_26 : decode prog_91_method_1_code 26 = .ok (.new 24, 3) := by decide +kernel
theorem d14_29 : decode prog_91_method_1_code 29 = .ok (.dup, 1) := by decide +kernel
theorem d14_30 : decode prog_91_method_1_code 30 = .ok (.aload_n 1, 1) := by decide +kernel
theorem d14_31 : decode prog_91_method_1_code 31 = .ok (.invokespecial 26, 3) := by decide +kernel
theorem pd_1 : parseMethodDescriptor "(Lcom/example/quorumline/quorumline/sim/Calendar;)V" = some ⟨[(.object "com/example/quorumline/quorumline/sim/Calendar")], none⟩ := by decide +kernel
theorem d14_34 : decode prog_91_method_1_code 34 = .ok (.putfield 29, 3) := by decide +kernel
theorem d14_37 : decode prog_91_method_1_code 37 = .ok (.return_, 1) := by decide +kernel
set_option maxRecDepth 65536 in
set_option maxHeartbeats 40000000 in
theorem rm_svi (l : Launch) (Z : State) (a0 : Array Value) (hw : ∀ d ∈ tables_1, d.before a0 Z = true) (ws : List Jvm.Cond) (a1 : Addr) (ms : Addr) (h0 : Heap) (n0 : Nat) (Z0 : n0 ≤ h0.size) (E1 : Exa Z h0 a1 "com/example/quorumline/quorumline/sim/Server") (F0 : Fld Z h0 a1 "com/example/quorumline/quorumline/sim/Server" "queue" "Ljava/util/Queue;" .null) (F1 : Fld Z h0 a1 "com/example/quorumline/quorumline/sim/Server" "calendar" "Lcom/example/quorumline/quorumline/sim/Calendar;" .null) (F2 : Fld Z h0 a1 "com/example/quorumline/quorumline/sim/Server" "queues" "Lcom/example/quorumline/quorumline/sim/Queues;" .null) (F3 : Fld Z h0 a1 "com/example/quorumline/quorumline/sim/Server" "busy" "Lcom/example/quorumline/quorumline/sim/Level;" .null) (g1 : n0 ≤ a1) (SM : Sta Z Z.heap "com/example/quorumline/quorumline/sim/Moment" "START" "Lcom/example/quorumline/quorumline/sim/Moment;" (.ref ms)) (O1 : Old Z n0 h0) :
    MetFree l (⟨"com/example/quorumline/quorumline/sim/Server", "<init>", "(Lcom/example/quorumline/quorumline/sim/Calendar;Lcom/example/quorumline/quorumline/sim/Queues;)V"⟩ : MethodName) (head1 (Jvm.Cond.code (⟨"com/example/quorumline/quorumline/sim/Server", "<init>", "(Lcom/example/quorumline/quorumline/sim/Calendar;Lcom/example/quorumline/quorumline/sim/Queues;)V"⟩ : MethodName) prog_91_method_1_code 3 none :: ws) ({ frames := 3, cells := 3, slots := 24, locals := 38 } : Room)) (fun a U => a = #[(.ref a1), .null, .null] ∧ Z.Warmed39 U.vm ∧ U.heap = h0) (fun _ _ _ _ _ => True) (fun _ U o U' => ∃ v L, o = .returned v ∧ Q_svi Z a1 ms h0 n0 v U'.heap L ∧ FrameEnd U o U' L ({ frames := 3, cells := 3, slots := 24, locals := 38 } : Room).cells ({ frames := 3, cells := 3, slots := 24, locals := 38 } : Room).slots) := by
  refine MetFree.of_bodySF (plainFor_of_name pn_4) hisR ?_
  intro p e s m args below meth c s₁ Bd hml0 hP hK
  obtain ⟨rfl, hZ, hh⟩ := hP
  have hx := Bd.exec
  have hby := Bd.bytes
  have hml : c.maxLocals = 3 := hml0
  have hown : s.vm.findClass "com/example/quorumline/quorumline/sim/Server" = some m.cls := findClass_of_methodNamed Bd.named
  have hnm := (name_of_methodNamed Bd.named Bd.method).1
  have X0 : Stand p l e ({ frames := 3, cells := 3, slots := 24, locals := 38 } : Room) s m #[(.ref a1), .null, .null] below meth c s₁ [] 0 0 := Stand.of_body Bd
  have e0 : s₁.heap = h0 := by rw [← hh, Bd.state]; rfl
  have N0 := Fr.nil n0
  have K0 : Keep h0 h0 [a1] := Keep.refl h0 [a1]
  have P0 : ∀ t, Steps p.tables e below (s₁.setTop (mkF m 0 #[.val (.ref a1), .val .null, .val .null] [])) t → Steps p.tables e below (s₁.setTop (entryFrame m #[(.ref a1), .null, .null] 3)) t := fun t k => castTop (ef_svi m a1) k
  obtain ⟨T1018, X1018, e1018, st1018⟩ := initO X0 hx hZ hown (hw _ (List.mem_of_getElem? (i := 93) rfl)) (hw _ (List.mem_of_getElem? (i := 12) rfl)) (hw _ (List.mem_of_getElem? (i := 13) rfl)) e0 (g := (mkF m 1 #[.val (.ref a1), .val .null, .val .null] [(.ref a1)])) rfl (by rw [hml]; rfl) rfl (hb hby d14_1) (by decide) (W := 0) (by show 2 * 0 + _ ≤ _; exact Nat.le_of_eq rfl) (by decide)
  obtain ⟨T1019, h1019, X1019, e1019, E1019, A1019, D1019, -, st1019⟩ := newO X1018 hx hZ hown (hw _ (List.mem_of_getElem? (i := 94) rfl)) (hw _ (List.mem_of_getElem? (i := 95) rfl)) (hw _ (List.mem_of_getElem? (i := 96) rfl)) e1018 (g := (mkF m 5 #[.val (.ref a1), .val .null, .val .null] [(.ref a1)])) rfl (hb hby d14_5) (by decide) (by decide)
  obtain ⟨b1019, g1019⟩ : ∃ z, z = h0.size := ⟨_, rfl⟩
  rw [← g1019] at A1019 D1019 st1019
  have ne_a1_b1019 : a1 ≠ b1019 := Nat.ne_of_lt (Nat.lt_of_lt_of_le E1.lt (Nat.le_of_eq g1019.symm))
  have g_b1019 : n0 ≤ b1019 := Nat.le_trans Z0 (Nat.le_of_eq g1019.symm)
  have sz_b1019 : h0.size ≤ b1019 := Nat.le_trans K0.1 (Nat.le_of_eq g1019.symm)
  have c1020_0 := E1.ext E1019
  have c1020_1 := F0.ext E1019
  have c1020_2 := F1.ext E1019
  have c1020_3 := F2.ext E1019
  have c1020_4 := F3.ext E1019
  have c1020_5 := O1.ext E1019
  have Z1019 : n0 ≤ h1019.size := Nat.le_trans Z0 E1019.1
  have K1019 : Keep h0 h1019 [a1] := K0.ext E1019
  have F1019_elements : Fld Z h1019 b1019 "java/util/ArrayDeque" "elements" "[Ljava/lang/Object;" .null := D1019 (Or.inl (hw _ (List.mem_of_getElem? (i := 110) rfl))) (ty := (.array (.object "java/lang/Object"))) (by decide)
  obtain ⟨_, _, ⟨T1021, L1021, k1021, n1021⟩, -, X1021, ⟨Lc1021, hQ1021, l1021, y1021, z1021⟩, st1021⟩ := X1019.specialBack hx (y := (⟨"java/util/ArrayDeque", "<init>", "()V"⟩ : MethodName)) rfl hown (mvT hZ (hw _ (List.mem_of_getElem? (i := 97) rfl))) (mvT hZ (hw _ (List.mem_of_getElem? (i := 98) rfl))) (mvT hZ (hw _ (List.mem_of_getElem? (i := 99) rfl))) (by decide) (backOf (W := 2) (rm_adi l Z a0 hw [] b1019 h1019 n0 Z1019 A1019 F1019_elements g_b1019) hZ (hw _ (List.mem_of_getElem? (i := 99) rfl)) (hw _ (List.mem_of_getElem? (i := 96) rfl)) (by decide) (by decide)) (g := (mkF m 9 #[.val (.ref a1), .val .null, .val .null] [(.ref b1019), (.ref b1019), (.ref a1)])) rfl (by rw [hml]; rfl) (Steps.refl _) (a := b1019) (argsL := []) (rest := [(.ref b1019), (.ref a1)]) (lenOf pd_0 rfl) rfl (by show 2 * 0 + _ ≤ _; exact Nat.le_of_eq rfl) (hb hby d14_9) (fun _ _ => ⟨rfl, e1019, (by decide : 1 + 1 ≤ _), (by decide : 3 + 17 ≤ _)⟩)
  dsimp only [Pt.U, Pt.locs, Pt.cells, Pt.slots] at X1021 l1021 y1021 z1021 st1021 hQ1021
  subst l1021 y1021 z1021
  obtain ⟨rfl, N1021q, Kd⟩ := hQ1021
  have N1021 := Fr.app N0 N1021q
  have c1022_0 := c1020_0.keep Kd
  have c1022_1 := c1020_1.keep Kd (ninS ne_a1_b1019 nin0)
  have c1022_2 := c1020_2.keep Kd (ninS ne_a1_b1019 nin0)
  have c1022_3 := c1020_3.keep Kd (ninS ne_a1_b1019 nin0)
  have c1022_4 := c1020_4.keep Kd (ninS ne_a1_b1019 nin0)
  have c1022_5 := c1020_5.keep Kd (allS g_b1019 all0)
  have c1022_6 := A1019.keep Kd
  have Z1021 : n0 ≤ T1021.heap.size := Nat.le_trans Z1019 Kd.1
  have K1021 : Keep h0 T1021.heap [a1] := K1019.trans Kd (allS (Or.inr sz_b1019) all0)
  obtain ⟨T1023, h1023, X1023, e1023, W1023, st1023⟩ := putF X1021 hx hZ hown (host := "") (Or.inl (hw _ (List.mem_of_getElem? (i := 111) rfl))) Via.refl rfl c1022_1 c1022_0 (Or.inr ⟨(hw _ (List.mem_of_getElem? (i := 112) rfl)), rfl, hnm⟩) (hw _ (List.mem_of_getElem? (i := 88) rfl)) (ty := (.object "java/util/Queue")) (by decide) rfl rfl (g := (mkF m 12 #[.val (.ref a1), .val .null, .val .null] [(.ref b1019), (.ref a1)])) rfl rfl (hb hby d14_12)
  have Fw1023 := c1022_1.same W1023
  have c1024_0 := c1022_0.wr W1023
  have c1024_2 := c1022_2.other W1023 (Or.inr (slot_ne (Or.inr (hw _ (List.mem_of_getElem? (i := 114) rfl))) (Or.inr (hw _ (List.mem_of_getElem? (i := 112) rfl))) (by decide) (t := (.object "com/example/quorumline/quorumline/sim/Calendar")) (t' := (.object "java/util/Queue")) (by decide) (by decide)))
  have c1024_3 := c1022_3.other W1023 (Or.inr (slot_ne (Or.inr (hw _ (List.mem_of_getElem? (i := 116) rfl))) (Or.inr (hw _ (List.mem_of_getElem? (i := 112) rfl))) (by decide) (t := (.object "com/example/quorumline/quorumline/sim/Queues")) (t' := (.object "java/util/Queue")) (by decide) (by decide)))
  have c1024_4 := c1022_4.other W1023 (Or.inr (slot_ne (Or.inr (hw _ (List.mem_of_getElem? (i := 132) rfl))) (Or.inr (hw _ (List.mem_of_getElem? (i := 112) rfl))) (by decide) (t := (.object "com/example/quorumline/quorumline/sim/Level")) (t' := (.object "java/util/Queue")) (by decide) (by decide)))
  have c1024_5 := c1022_5.wr W1023 g1
  have c1024_6 := c1022_6.wr W1023
  have Z1023 : n0 ≤ h1023.size := Nat.le_trans Z1021 (Nat.le_of_eq W1023.size.symm)
  have K1023 : Keep h0 h1023 [a1] := K1021.wr W1023 (Or.inl (List.mem_of_getElem? (i := 0) rfl))
  have N1023 := Fr.snoc X1023 N1021 g1
  obtain ⟨T1025, h1025, X1025, e1025, W1025, st1025⟩ := putF X1023 hx hZ hown (host := "") (Or.inl (hw _ (List.mem_of_getElem? (i := 113) rfl))) Via.refl e1023 c1024_2 c1024_0 (Or.inr ⟨(hw _ (List.mem_of_getElem? (i := 114) rfl)), rfl, hnm⟩) (hw _ (List.mem_of_getElem? (i := 88) rfl)) (ty := (.object "com/example/quorumline/quorumline/sim/Calendar")) (by decide) rfl rfl (g := (mkF m 17 #[.val (.ref a1), .val .null, .val .null] [.null, (.ref a1)])) rfl rfl (hb hby d14_17)
  have Fw1025 := c1024_2.same W1025
  have c1026_0 := c1024_0.wr W1025
  have c1026_1 := Fw1023.other W1025 (Or.inr (slot_ne (Or.inr (hw _ (List.mem_of_getElem? (i := 112) rfl))) (Or.inr (hw _ (List.mem_of_getElem? (i := 114) rfl))) (by decide) (t := (.object "java/util/Queue")) (t' := (.object "com/example/quorumline/quorumline/sim/Calendar")) (by decide) (by decide)))
  have c1026_3 := c1024_3.other W1025 (Or.inr (slot_ne (Or.inr (hw _ (List.mem_of_getElem? (i := 116) rfl))) (Or.inr (hw _ (List.mem_of_getElem? (i := 114) rfl))) (by decide) (t := (.object "com/example/quorumline/quorumline/sim/Queues")) (t' := (.object "com/example/quorumline/quorumline/sim/Calendar")) (by decide) (by decide)))
  have c1026_4 := c1024_4.other W1025 (Or.inr (slot_ne (Or.inr (hw _ (List.mem_of_getElem? (i := 132) rfl))) (Or.inr (hw _ (List.mem_of_getElem? (i := 114) rfl))) (by decide) (t := (.object "com/example/quorumline/quorumline/sim/Level")) (t' := (.object "com/example/quorumline/quorumline/sim/Calendar")) (by decide) (by decide)))
  have c1026_5 := c1024_5.wr W1025 g1
  have c1026_6 := c1024_6.wr W1025
  have Z1025 : n0 ≤ h1025.size := Nat.le_trans Z1023 (Nat.le_of_eq W1025.size.symm)
  have K1025 : Keep h0 h1025 [a1] := K1023.wr W1025 (Or.inl (List.mem_of_getElem? (i := 0) rfl))
  have N1025 := Fr.snoc X1025 N1023 g1
  obtain ⟨T1027, h1027, X1027, e1027, W1027, st1027⟩ := putF X1025 hx hZ hown (host := "") (Or.inl (hw _ (List.mem_of_getElem? (i := 115) rfl))) Via.refl e1025 c1026_3 c1026_0 (Or.inr ⟨(hw _ (List.mem_of_getElem? (i := 116) rfl)), rfl, hnm⟩) (hw _ (List.mem_of_getElem? (i := 88) rfl)) (ty := (.object "com/example/quorumline/quorumline/sim/Queues")) (by decide) rfl rfl (g := (mkF m 22 #[.val (.ref a1), .val .null, .val .null] [.null, (.ref a1)])) rfl rfl (hb hby d14_22)
  have Fw1027 := c1026_3.same W1027
  have c1028_0 := c1026_0.wr W1027
  have c1028_1 := c1026_1.other W1027 (Or.inr (slot_ne (Or.inr (hw _ (List.mem_of_getElem? (i := 112) rfl))) (Or.inr (hw _ (List.mem_of_getElem? (i := 116) rfl))) (by decide) (t := (.object "java/util/Queue")) (t' := (.object "com/example/quorumline/quorumline/sim/Queues")) (by decide) (by decide)))
  have c1028_2 := Fw1025.other W1027 (Or.inr (slot_ne (Or.inr (hw _ (List.mem_of_getElem? (i := 114) rfl))) (Or.inr (hw _ (List.mem_of_getElem? (i := 116) rfl))) (by decide) (t := (.object "com/example/quorumline/quorumline/sim/Calendar")) (t' := (.object "com/example/quorumline/quorumline/sim/Queues")) (by decide) (by decide)))
  have c1028_4 := c1026_4.other W1027 (Or.inr (slot_ne (Or.inr (hw _ (List.mem_of_getElem? (i := 132) rfl))) (Or.inr (hw _ (List.mem_of_getElem? (i := 116) rfl))) (by decide) (t := (.object "com/example/quorumline/quorumline/sim/Level")) (t' := (.object "com/example/quorumline/quorumline/sim/Queues")) (by decide) (by decide)))
  have c1028_5 := c1026_5.wr W1027 g1
  have c1028_6 := c1026_6.wr W1027
  have Z1027 : n0 ≤ h1027.size := Nat.le_trans Z1025 (Nat.le_of_eq W1027.size.symm)
  have K1027 : Keep h0 h1027 [a1] := K1025.wr W1027 (Or.inl (List.mem_of_getElem? (i := 0) rfl))
  have N1027 := Fr.snoc X1027 N1025 g1
  obtain ⟨T1029, h1029, X1029, e1029, E1029, A1029, D1029, -, st1029⟩ := newO X1027 hx hZ hown (hw _ (List.mem_of_getElem? (i := 117) rfl)) (hw _ (List.mem_of_getElem? (i := 118) rfl)) (hw _ (List.mem_of_getElem? (i := 119) rfl)) e1027 (g := (mkF m 26 #[.val (.ref a1), .val .null, .val .null] [(.ref a1)])) rfl (hb hby d14_26) (by decide) (by decide)
  obtain ⟨b1029, g1029⟩ : ∃ z, z = h1027.size := ⟨_, rfl⟩
  rw [← g1029] at A1029 D1029 st1029
  have ne_a1_b1029 : a1 ≠ b1029 := Nat.ne_of_lt (Nat.lt_of_lt_of_le c1028_0.lt (Nat.le_of_eq g1029.symm))
  have ne_b1019_b1029 : b1019 ≠ b1029 := Nat.ne_of_lt (Nat.lt_of_lt_of_le c1028_6.lt (Nat.le_of_eq g1029.symm))
  have g_b1029 : n0 ≤ b1029 := Nat.le_trans Z1027 (Nat.le_of_eq g1029.symm)
  have sz_b1029 : h0.size ≤ b1029 := Nat.le_trans K1027.1 (Nat.le_of_eq g1029.symm)
  have c1030_0 := c1028_0.ext E1029
  have c1030_1 := c1028_1.ext E1029
  have c1030_2 := c1028_2.ext E1029
  have c1030_3 := Fw1027.ext E1029
  have c1030_4 := c1028_4.ext E1029
  have c1030_5 := c1028_5.ext E1029
  have c1030_6 := c1028_6.ext E1029
  have Z1029 : n0 ≤ h1029.size := Nat.le_trans Z1027 E1029.1
  have K1029 : Keep h0 h1029 [a1] := K1027.ext E1029
  have F1029_since : Fld Z h1029 b1029 "com/example/quorumline/quorumline/sim/Level" "since" "Lcom/example/quorumline/quorumline/sim/Moment;" .null := D1029 (Or.inl (hw _ (List.mem_of_getElem? (i := 128) rfl))) (ty := (.object "com/example/quorumline/quorumline/sim/Moment")) (by decide)
  have F1029_calendar : Fld Z h1029 b1029 "com/example/quorumline/quorumline/sim/Level" "calendar" "Lcom/example/quorumline/quorumline/sim/Calendar;" .null := D1029 (Or.inr (hw _ (List.mem_of_getElem? (i := 130) rfl))) (ty := (.object "com/example/quorumline/quorumline/sim/Calendar")) (by decide)
  obtain ⟨_, _, ⟨T1031, L1031, k1031, n1031⟩, -, X1031, ⟨Lc1031, hQ1031, l1031, y1031, z1031⟩, st1031⟩ := X1029.specialBack hx (y := (⟨"com/example/quorumline/quorumline/sim/Level", "<init>", "(Lcom/example/quorumline/quorumline/sim/Calendar;)V"⟩ : MethodName)) rfl hown (mvT hZ (hw _ (List.mem_of_getElem? (i := 120) rfl))) (mvT hZ (hw _ (List.mem_of_getElem? (i := 121) rfl))) (mvT hZ (hw _ (List.mem_of_getElem? (i := 122) rfl))) (by decide) (backOf (W := 2) (rm_lvi l Z a0 hw [] b1029 ms h1029 n0 Z1029 A1029 F1029_since F1029_calendar g_b1029 SM c1030_5) hZ (hw _ (List.mem_of_getElem? (i := 122) rfl)) (hw _ (List.mem_of_getElem? (i := 119) rfl)) (by decide) (by decide)) (g := (mkF m 31 #[.val (.ref a1), .val .null, .val .null] [.null, (.ref b1029), (.ref b1029), (.ref a1)])) rfl (by rw [hml]; rfl) (Steps.refl _) (a := b1029) (argsL := [.null]) (rest := [(.ref b1029), (.ref a1)]) (lenOf pd_1 rfl) rfl (by show 2 * 0 + _ ≤ _; exact Nat.le_of_eq rfl) (hb hby d14_31) (fun _ _ => ⟨rfl, e1029, (by decide : 3 + 0 ≤ _), (by decide : 24 + 0 ≤ _)⟩)
  dsimp only [Pt.U, Pt.locs, Pt.cells, Pt.slots] at X1031 l1031 y1031 z1031 st1031 hQ1031
  subst l1031 y1031 z1031
  obtain ⟨rfl, N1031q, Kv⟩ := hQ1031
  have N1031 := Fr.app N1027 N1031q
  have c1032_0 := c1030_0.keep Kv
  have c1032_1 := c1030_1.keep Kv (ninS ne_a1_b1029 nin0)
  have c1032_2 := c1030_2.keep Kv (ninS ne_a1_b1029 nin0)
  have c1032_3 := c1030_3.keep Kv (ninS ne_a1_b1029 nin0)
  have c1032_4 := c1030_4.keep Kv (ninS ne_a1_b1029 nin0)
  have c1032_5 := c1030_5.keep Kv (allS g_b1029 all0)
  have c1032_6 := c1030_6.keep Kv
  have c1032_7 := A1029.keep Kv
  have Z1031 : n0 ≤ T1031.heap.size := Nat.le_trans Z1029 Kv.1
  have K1031 : Keep h0 T1031.heap [a1] := K1029.trans Kv (allS (Or.inr sz_b1029) all0)
  obtain ⟨T1033, h1033, X1033, e1033, W1033, st1033⟩ := putF X1031 hx hZ hown (host := "") (Or.inl (hw _ (List.mem_of_getElem? (i := 131) rfl))) Via.refl rfl c1032_4 c1032_0 (Or.inr ⟨(hw _ (List.mem_of_getElem? (i := 132) rfl)), rfl, hnm⟩) (hw _ (List.mem_of_getElem? (i := 88) rfl)) (ty := (.object "com/example/quorumline/quorumline/sim/Level")) (by decide) rfl rfl (g := (mkF m 34 #[.val (.ref a1), .val .null, .val .null] [(.ref b1029), (.ref a1)])) rfl rfl (hb hby d14_34)
  have Fw1033 := c1032_4.same W1033
  have c1034_0 := c1032_0.wr W1033
  have c1034_1 := c1032_1.other W1033 (Or.inr (slot_ne (Or.inr (hw _ (List.mem_of_getElem? (i := 112) rfl))) (Or.inr (hw _ (List.mem_of_getElem? (i := 132) rfl))) (by decide) (t := (.object "java/util/Queue")) (t' := (.object "com/example/quorumline/quorumline/sim/Level")) (by decide) (by decide)))
  have c1034_2 := c1032_2.other W1033 (Or.inr (slot_ne (Or.inr (hw _ (List.mem_of_getElem? (i := 114) rfl))) (Or.inr (hw _ (List.mem_of_getElem? (i := 132) rfl))) (by decide) (t := (.object "com/example/quorumline/quorumline/sim/Calendar")) (t' := (.object "com/example/quorumline/quorumline/sim/Level")) (by decide) (by decide)))
  have c1034_3 := c1032_3.other W1033 (Or.inr (slot_ne (Or.inr (hw _ (List.mem_of_getElem? (i := 116) rfl))) (Or.inr (hw _ (List.mem_of_getElem? (i := 132) rfl))) (by decide) (t := (.object "com/example/quorumline/quorumline/sim/Queues")) (t' := (.object "com/example/quorumline/quorumline/sim/Level")) (by decide) (by decide)))
  have c1034_5 := c1032_5.wr W1033 g1
  have c1034_6 := c1032_6.wr W1033
  have c1034_7 := c1032_7.wr W1033
  have Z1033 : n0 ≤ h1033.size := Nat.le_trans Z1031 (Nat.le_of_eq W1033.size.symm)
  have K1033 : Keep h0 h1033 [a1] := K1031.wr W1033 (Or.inl (List.mem_of_getElem? (i := 0) rfl))
  have N1033 := Fr.snoc X1033 N1031 g1
  have P1035 : ∀ t, Steps p.tables e below (T1033.setTop (mkF m 37 #[.val (.ref a1), .val .null, .val .null] [])) t → Steps p.tables e below (s₁.setTop (entryFrame m #[(.ref a1), .null, .null] 3)) t := fun t k => P0 t (by
    refine XS.aloadN X0.here hx rfl (hb hby d14_0) rfl rfl ?_
    show Steps p.tables e below (s₁.setTop (mkF m 1 #[.val (.ref a1), .val .null, .val .null] [(.ref a1)])) _
    refine st1018 _ ?_
    show Steps p.tables e below (T1018.setTop (mkF m 4 #[.val (.ref a1), .val .null, .val .null] [])) _
    refine XS.aloadN X1018.here hx rfl (hb hby d14_4) rfl rfl ?_
    show Steps p.tables e below (T1018.setTop (mkF m 5 #[.val (.ref a1), .val .null, .val .null] [(.ref a1)])) _
    refine st1019 _ ?_
    show Steps p.tables e below (T1019.setTop (mkF m 8 #[.val (.ref a1), .val .null, .val .null] [(.ref b1019), (.ref a1)])) _
    refine XS.dup X1019.here hx rfl (hb hby d14_8) rfl rfl ?_
    show Steps p.tables e below (T1019.setTop (mkF m 9 #[.val (.ref a1), .val .null, .val .null] [(.ref b1019), (.ref b1019), (.ref a1)])) _
    refine st1021.trans ?_
    show Steps p.tables e below (T1021.setTop (mkF m 12 #[.val (.ref a1), .val .null, .val .null] [(.ref b1019), (.ref a1)])) _
    refine st1023 _ ?_
    show Steps p.tables e below (T1023.setTop (mkF m 15 #[.val (.ref a1), .val .null, .val .null] [])) _
    refine XS.aloadN X1023.here hx rfl (hb hby d14_15) rfl rfl ?_
    show Steps p.tables e below (T1023.setTop (mkF m 16 #[.val (.ref a1), .val .null, .val .null] [(.ref a1)])) _
    refine XS.aloadN X1023.here hx rfl (hb hby d14_16) rfl rfl ?_
    show Steps p.tables e below (T1023.setTop (mkF m 17 #[.val (.ref a1), .val .null, .val .null] [.null, (.ref a1)])) _
    refine st1025 _ ?_
    show Steps p.tables e below (T1025.setTop (mkF m 20 #[.val (.ref a1), .val .null, .val .null] [])) _
    refine XS.aloadN X1025.here hx rfl (hb hby d14_20) rfl rfl ?_
    show Steps p.tables e below (T1025.setTop (mkF m 21 #[.val (.ref a1), .val .null, .val .null] [(.ref a1)])) _
    refine XS.aloadN X1025.here hx rfl (hb hby d14_21) rfl rfl ?_
    show Steps p.tables e below (T1025.setTop (mkF m 22 #[.val (.ref a1), .val .null, .val .null] [.null, (.ref a1)])) _
    refine st1027 _ ?_
    show Steps p.tables e below (T1027.setTop (mkF m 25 #[.val (.ref a1), .val .null, .val .null] [])) _
    refine XS.aloadN X1027.here hx rfl (hb hby d14_25) rfl rfl ?_
    show Steps p.tables e below (T1027.setTop (mkF m 26 #[.val (.ref a1), .val .null, .val .null] [(.ref a1)])) _
    refine st1029 _ ?_
    show Steps p.tables e below (T1029.setTop (mkF m 29 #[.val (.ref a1), .val .null, .val .null] [(.ref b1029), (.ref a1)])) _
    refine XS.dup X1029.here hx rfl (hb hby d14_29) rfl rfl ?_
    show Steps p.tables e below (T1029.setTop (mkF m 30 #[.val (.ref a1), .val .null, .val .null] [(.ref b1029), (.ref b1029), (.ref a1)])) _
    refine XS.aloadN X1029.here hx rfl (hb hby d14_30) rfl rfl ?_
    show Steps p.tables e below (T1029.setTop (mkF m 31 #[.val (.ref a1), .val .null, .val .null] [.null, (.ref b1029), (.ref b1029), (.ref a1)])) _
    refine st1031.trans ?_
    show Steps p.tables e below (T1031.setTop (mkF m 34 #[.val (.ref a1), .val .null, .val .null] [(.ref b1029), (.ref a1)])) _
    refine st1033 _ ?_
    show Steps p.tables e below (T1033.setTop (mkF m 37 #[.val (.ref a1), .val .null, .val .null] [])) _
    exact k)
  obtain ⟨fs, hr, hrun, hended, hW, hsame⟩ := X1033.leave (v := none) (fun _ => rfl)
  refine ⟨_, _, P1035 _ ?_, hrun, hended, _, _, rfl, ?_, ⟨_, rfl⟩, hW, hsame.mono (by decide) (by decide)⟩
  · exact X1033.returnOut hx Bd.returns (hb hby d14_37) hr
  · show Q_svi Z a1 ms h0 n0 _ T1033.heap _
    rw [e1033]
    exact ⟨rfl, N1033, K1033⟩
theorem ef_gri (m : MethodId) (x0 : Addr) (x1 : Addr) (x2 : Int32) (x3 : Int32) (x4 : UInt64) (x5 : UInt64) : entryFrame m #[(.ref x0), (.ref x1), (.int x2), (.int x3), (.double x4), (.double x5)] 8 = mkF m 0 #[.val (.ref x0), .val (.ref x1), .val (.int x2), .val (.int x3), .val (.double x4), .second, .val (.double x5), .second] [] := by first | (simp [entryFrame, mkF, argsToLocals, Value.category]; done) | rfl
def Q_gri (Z : State) (a1 : Addr) (a2 : Addr) (u1 : Int32) (wi : Int32) (d1 : UInt64) (d2 : UInt64) (h0 : Heap) (n0 : Nat) (v : Option Value) (h : Heap) (L : List Loc) : Prop := v = none ∧ Fr n0 L ∧ Keep h0 h [a1] ∧ Exa Z h a1 "com/example/quorumline/quorumline/sim/Layout$Group" ∧ Fld Z h a1 "com/example/quorumline/quorumline/sim/Layout$Group" "kind" "Ljava/lang/String;" (.ref a2) ∧ Fld Z h a1 "com/example/quorumline/quorumline/sim/Layout$Group" "io" "Z" (.int wi) ∧ Fld Z h a1 "com/example/quorumline/quorumline/sim/Layout$Group" "cpuSlice" "D" (.double d1) ∧ Fld Z h a1 "com/example/quorumline/quorumline/sim/Layout$Group" "messageCpu" "D" (.double d2)
theorem pn_5 : plainName "com/example/quorumline/quorumline/sim/Layout$Group" = true := by first | (simp [plainName, overriddenIn]; done) | decide +kernel
theorem d7_0 : decode prog_77_method_1_code 0 = .ok (.aload_n 0, 1) := by decide +kernel
theorem d7_1 : decode prog_77_method_1_code 1 = .ok (.invokespecial 1, 3) := by decide +kernel
theorem d7_4 : decode prog_77_method_1_code 4 = .ok (.aload_n 0, 1) := by decide +kernel
theorem d7_5 : decode prog_77_method_1_code 5 = .ok (.aload_n 1, 1) := by decide +kernel
theorem d7_6 : decode prog_77_method_1_code 6 = .ok (.putfield 7, 3) := by decide +kernel
theorem d7_9 : decode prog_77_method_1_code 9 = .ok (.aload_n 0, 1) := by decide +kernel
theorem d7_10 : decode prog_77_method_1_code 10 = .ok (.iload_n 2, 1) := by decide +kernel
theorem d7_11 : decode prog_77_method_1_code 11 = .ok (.putfield 13, 3) := by decide +kernel
theorem d7_14 : decode prog_77_method_1_code 14 = .ok (.aload_n 0, 1) := by decide +kernel
theorem d7_15 : decode prog_77_method_1_code 15 = .ok (.iload_n 3, 1) := by decide +kernel
theorem d7_16 : decode prog_77_method_1_code 16 = .ok (.putfield 17, 3) := by decide +kernel
theorem d7_19 : decode prog_77_method_1_code 19 = .ok (.aload_n 0, 1) := by decide +kernel
theorem d7_20 : decode prog_77_method_1_code 20 = .ok (.dload 4, 2) := by decide +kernel
theorem d7_22 : decode prog_77_method_1_code 22 = .ok (.putfield 21, 3) := by decide +kernel
theorem d7_25 : decode prog_77_method_1_code 25 = .ok (.aload_n 0, 1) := by decide +kernel
theorem d7_26 : decode prog_77_method_1_code 26 = .ok (.dload 6, 2) := by decide +kernel
theorem d7_28 : decode prog_77_method_1_code 28 = .ok (.putfield 25, 3) := by decide +kernel
theorem d7_31 : decode prog_77_method_1_code 31 = .ok (.return_, 1) := by decide +kernel
set_option maxRecDepth 65536 in
set_option maxHeartbeats 40000000 in
theorem rm_gri (l : Launch) (Z : State) (a0 : Array Value) (hw : ∀ d ∈ tables_1, d.before a0 Z = true) (ws : List Jvm.Cond) (a1 : Addr) (a2 : Addr) (u1 : Int32) (wi : Int32) (d1 : UInt64) (d2 : UInt64) (h0 : Heap) (n0 : Nat) (Z0 : n0 ≤ h0.size) (E1 : Exa Z h0 a1 "com/example/quorumline/quorumline/sim/Layout$Group") (F0 : Fld Z h0 a1 "com/example/quorumline/quorumline/sim/Layout$Group" "kind" "Ljava/lang/String;" .null) (F1 : Fld Z h0 a1 "com/example/quorumline/quorumline/sim/Layout$Group" "count" "I" (.int (0 : Int32))) (F2 : Fld Z h0 a1 "com/example/quorumline/quorumline/sim/Layout$Group" "io" "Z" (.int (0 : Int32))) (F3 : Fld Z h0 a1 "com/example/quorumline/quorumline/sim/Layout$Group" "cpuSlice" "D" (.double (0 : UInt64))) (F4 : Fld Z h0 a1 "com/example/quorumline/quorumline/sim/Layout$Group" "messageCpu" "D" (.double (0 : UInt64))) (g1 : n0 ≤ a1) (hwi : wi = 0 ∨ wi = 1) :
    MetFree l (⟨"com/example/quorumline/quorumline/sim/Layout$Group", "<init>", "(Ljava/lang/String;IZDD)V"⟩ : MethodName) (head1 (Jvm.Cond.code (⟨"com/example/quorumline/quorumline/sim/Layout$Group", "<init>", "(Ljava/lang/String;IZDD)V"⟩ : MethodName) prog_77_method_1_code 8 none :: ws) ({ frames := 2, cells := 0, slots := 0, locals := 24 } : Room)) (fun a U => a = #[(.ref a1), (.ref a2), (.int u1), (.int wi), (.double d1), (.double d2)] ∧ Z.Warmed39 U.vm ∧ U.heap = h0) (fun _ _ _ _ _ => True) (fun _ U o U' => ∃ v L, o = .returned v ∧ Q_gri Z a1 a2 u1 wi d1 d2 h0 n0 v U'.heap L ∧ FrameEnd U o U' L ({ frames := 2, cells := 0, slots := 0, locals := 24 } : Room).cells ({ frames := 2, cells := 0, slots := 0, locals := 24 } : Room).slots) := by
  refine MetFree.of_bodySF (plainFor_of_name pn_5) hisR ?_
  intro p e s m args below meth c s₁ Bd hml0 hP hK
  obtain ⟨rfl, hZ, hh⟩ := hP
  have hx := Bd.exec
  have hby := Bd.bytes
  have hml : c.maxLocals = 8 := hml0
  have hown : s.vm.findClass "com/example/quorumline/quorumline/sim/Layout$Group" = some m.cls := findClass_of_methodNamed Bd.named
  have hnm := (name_of_methodNamed Bd.named Bd.method).1
  have X0 : Stand p l e ({ frames := 2, cells := 0, slots := 0, locals := 24 } : Room) s m #[(.ref a1), (.ref a2), (.int u1), (.int wi), (.double d1), (.double d2)] below meth c s₁ [] 0 0 := Stand.of_body Bd
  have e0 : s₁.heap = h0 := by rw [← hh, Bd.state]; rfl
  have N0 := Fr.nil n0
  have K0 : Keep h0 h0 [a1] := Keep.refl h0 [a1]
  have P0 : ∀ t, Steps p.tables e below (s₁.setTop (mkF m 0 #[.val (.ref a1), .val (.ref a2), .val (.int u1), .val (.int wi), .val (.double d1), .second, .val (.double d2), .second] [])) t → Steps p.tables e below (s₁.setTop (entryFrame m #[(.ref a1), (.ref a2), (.int u1), (.int wi), (.double d1), (.double d2)] 8)) t := fun t k => castTop (ef_gri m a1 a2 u1 wi d1 d2) k
  obtain ⟨_, _, ⟨T1036, L1036, k1036, n1036⟩, -, X1036, ⟨Lc1036, hQ1036, l1036, y1036, z1036⟩, st1036⟩ := X0.specialBack hx (y := (⟨"java/lang/Record", "<init>", "()V"⟩ : MethodName)) rfl hown (mvT hZ (hw _ (List.mem_of_getElem? (i := 36) rfl))) (mvT hZ (hw _ (List.mem_of_getElem? (i := 37) rfl))) (mvT hZ (hw _ (List.mem_of_getElem? (i := 40) rfl))) (by decide) (backOf (W := 0) (rm_rec l Z a0 hw [] a1 h0 n0 Z0 ) hZ (hw _ (List.mem_of_getElem? (i := 40) rfl)) (hw _ (List.mem_of_getElem? (i := 39) rfl)) (by decide) (by decide)) (g := (mkF m 1 #[.val (.ref a1), .val (.ref a2), .val (.int u1), .val (.int wi), .val (.double d1), .second, .val (.double d2), .second] [(.ref a1)])) rfl (by rw [hml]; rfl) (Steps.refl _) (a := a1) (argsL := []) (rest := []) (lenOf pd_0 rfl) rfl (by show 2 * 0 + _ ≤ _; exact Nat.le_of_eq rfl) (hb hby d7_1) (fun _ _ => ⟨rfl, e0, (by decide : 0 + 0 ≤ _), (by decide : 0 + 0 ≤ _)⟩)
  dsimp only [Pt.U, Pt.locs, Pt.cells, Pt.slots] at X1036 l1036 y1036 z1036 st1036 hQ1036
  subst l1036 y1036 z1036
  obtain ⟨rfl, N1036q, e1⟩ := hQ1036
  have N1036 := Fr.app N0 N1036q
  obtain ⟨T1037, h1037, X1037, e1037, W1037, st1037⟩ := putF X1036 hx hZ hown (host := "") (Or.inl (hw _ (List.mem_of_getElem? (i := 42) rfl))) Via.refl e1 F0 E1 (Or.inr ⟨(hw _ (List.mem_of_getElem? (i := 43) rfl)), rfl, hnm⟩) (hw _ (List.mem_of_getElem? (i := 31) rfl)) (ty := (.object "java/lang/String")) (by decide) rfl rfl (g := (mkF m 6 #[.val (.ref a1), .val (.ref a2), .val (.int u1), .val (.int wi), .val (.double d1), .second, .val (.double d2), .second] [(.ref a2), (.ref a1)])) rfl rfl (hb hby d7_6)
  have Fw1037 := F0.same W1037
  have c1038_0 := E1.wr W1037
  have c1038_2 := F1.other W1037 (Or.inr (slot_ne (Or.inr (hw _ (List.mem_of_getElem? (i := 45) rfl))) (Or.inr (hw _ (List.mem_of_getElem? (i := 43) rfl))) (by decide) (t := .int) (t' := (.object "java/lang/String")) (by decide) (by decide)))
  have c1038_3 := F2.other W1037 (Or.inr (slot_ne (Or.inr (hw _ (List.mem_of_getElem? (i := 47) rfl))) (Or.inr (hw _ (List.mem_of_getElem? (i := 43) rfl))) (by decide) (t := .boolean) (t' := (.object "java/lang/String")) (by decide) (by decide)))
  have c1038_4 := F3.other W1037 (Or.inr (slot_ne (Or.inr (hw _ (List.mem_of_getElem? (i := 49) rfl))) (Or.inr (hw _ (List.mem_of_getElem? (i := 43) rfl))) (by decide) (t := .double) (t' := (.object "java/lang/String")) (by decide) (by decide)))
  have c1038_5 := F4.other W1037 (Or.inr (slot_ne (Or.inr (hw _ (List.mem_of_getElem? (i := 51) rfl))) (Or.inr (hw _ (List.mem_of_getElem? (i := 43) rfl))) (by decide) (t := .double) (t' := (.object "java/lang/String")) (by decide) (by decide)))
  have Z1037 : n0 ≤ h1037.size := Nat.le_trans Z0 (Nat.le_of_eq W1037.size.symm)
  have K1037 : Keep h0 h1037 [a1] := K0.wr W1037 (Or.inl (List.mem_of_getElem? (i := 0) rfl))
  have N1037 := Fr.snoc X1037 N1036 g1
  obtain ⟨T1039, h1039, X1039, e1039, W1039, st1039⟩ := putF X1037 hx hZ hown (host := "") (Or.inl (hw _ (List.mem_of_getElem? (i := 44) rfl))) Via.refl e1037 c1038_2 c1038_0 (Or.inr ⟨(hw _ (List.mem_of_getElem? (i := 45) rfl)), rfl, hnm⟩) (hw _ (List.mem_of_getElem? (i := 31) rfl)) (ty := .int) (by decide) rfl rfl (g := (mkF m 11 #[.val (.ref a1), .val (.ref a2), .val (.int u1), .val (.int wi), .val (.double d1), .second, .val (.double d2), .second] [(.int u1), (.ref a1)])) rfl rfl (hb hby d7_11)
  have Fw1039 := c1038_2.same W1039
  have c1040_0 := c1038_0.wr W1039
  have c1040_1 := Fw1037.other W1039 (Or.inr (slot_ne (Or.inr (hw _ (List.mem_of_getElem? (i := 43) rfl))) (Or.inr (hw _ (List.mem_of_getElem? (i := 45) rfl))) (by decide) (t := (.object "java/lang/String")) (t' := .int) (by decide) (by decide)))
  have c1040_3 := c1038_3.other W1039 (Or.inr (slot_ne (Or.inr (hw _ (List.mem_of_getElem? (i := 47) rfl))) (Or.inr (hw _ (List.mem_of_getElem? (i := 45) rfl))) (by decide) (t := .boolean) (t' := .int) (by decide) (by decide)))
  have c1040_4 := c1038_4.other W1039 (Or.inr (slot_ne (Or.inr (hw _ (List.mem_of_getElem? (i := 49) rfl))) (Or.inr (hw _ (List.mem_of_getElem? (i := 45) rfl))) (by decide) (t := .double) (t' := .int) (by decide) (by decide)))
  have c1040_5 := c1038_5.other W1039 (Or.inr (slot_ne (Or.inr (hw _ (List.mem_of_getElem? (i := 51) rfl))) (Or.inr (hw _ (List.mem_of_getElem? (i := 45) rfl))) (by decide) (t := .double) (t' := .int) (by decide) (by decide)))
  have Z1039 : n0 ≤ h1039.size := Nat.le_trans Z1037 (Nat.le_of_eq W1039.size.symm)
  have K1039 : Keep h0 h1039 [a1] := K1037.wr W1039 (Or.inl (List.mem_of_getElem? (i := 0) rfl))
  have N1039 := Fr.snoc X1039 N1037 g1
  obtain ⟨T1041, h1041, X1041, e1041, W1041, st1041⟩ := putFN X1039 hx hZ hown (hw _ (List.mem_of_getElem? (i := 46) rfl)) Via.refl e1039 c1040_3 c1040_0 (Or.inr ⟨(hw _ (List.mem_of_getElem? (i := 47) rfl)), rfl, hnm⟩) (hw _ (List.mem_of_getElem? (i := 31) rfl)) (ty := .boolean) (v := (.int wi)) (v' := (.int wi)) (by decide) (congrArg Value.int (own_nar hwi)) (own_fit hwi) (g := (mkF m 16 #[.val (.ref a1), .val (.ref a2), .val (.int u1), .val (.int wi), .val (.double d1), .second, .val (.double d2), .second] [(.int wi), (.ref a1)])) rfl rfl (hb hby d7_16)
  have Fw1041 := c1040_3.same W1041
  have c1042_0 := c1040_0.wr W1041
  have c1042_1 := c1040_1.other W1041 (Or.inr (slot_ne (Or.inr (hw _ (List.mem_of_getElem? (i := 43) rfl))) (Or.inr (hw _ (List.mem_of_getElem? (i := 47) rfl))) (by decide) (t := (.object "java/lang/String")) (t' := .boolean) (by decide) (by decide)))
  have c1042_2 := Fw1039.other W1041 (Or.inr (slot_ne (Or.inr (hw _ (List.mem_of_getElem? (i := 45) rfl))) (Or.inr (hw _ (List.mem_of_getElem? (i := 47) rfl))) (by decide) (t := .int) (t' := .boolean) (by decide) (by decide)))
  have c1042_4 := c1040_4.other W1041 (Or.inr (slot_ne (Or.inr (hw _ (List.mem_of_getElem? (i := 49) rfl))) (Or.inr (hw _ (List.mem_of_getElem? (i := 47) rfl))) (by decide) (t := .double) (t' := .boolean) (by decide) (by decide)))
  have c1042_5 := c1040_5.other W1041 (Or.inr (slot_ne (Or.inr (hw _ (List.mem_of_getElem? (i := 51) rfl))) (Or.inr (hw _ (List.mem_of_getElem? (i := 47) rfl))) (by decide) (t := .double) (t' := .boolean) (by decide) (by decide)))
  have Z1041 : n0 ≤ h1041.size := Nat.le_trans Z1039 (Nat.le_of_eq W1041.size.symm)
  have K1041 : Keep h0 h1041 [a1] := K1039.wr W1041 (Or.inl (List.mem_of_getElem? (i := 0) rfl))
  have N1041 := Fr.snoc X1041 N1039 g1
  obtain ⟨T1043, h1043, X1043, e1043, W1043, st1043⟩ := putF X1041 hx hZ hown (host := "") (Or.inl (hw _ (List.mem_of_getElem? (i := 48) rfl))) Via.refl e1041 c1042_4 c1042_0 (Or.inr ⟨(hw _ (List.mem_of_getElem? (i := 49) rfl)), rfl, hnm⟩) (hw _ (List.mem_of_getElem? (i := 31) rfl)) (ty := .double) (by decide) rfl rfl (g := (mkF m 22 #[.val (.ref a1), .val (.ref a2), .val (.int u1), .val (.int wi), .val (.double d1), .second, .val (.double d2), .second] [(.double d1), (.ref a1)])) rfl rfl (hb hby d7_22)
  have Fw1043 := c1042_4.same W1043
  have c1044_0 := c1042_0.wr W1043
  have c1044_1 := c1042_1.other W1043 (Or.inr (slot_ne (Or.inr (hw _ (List.mem_of_getElem? (i := 43) rfl))) (Or.inr (hw _ (List.mem_of_getElem? (i := 49) rfl))) (by decide) (t := (.object "java/lang/String")) (t' := .double) (by decide) (by decide)))
  have c1044_2 := c1042_2.other W1043 (Or.inr (slot_ne (Or.inr (hw _ (List.mem_of_getElem? (i := 45) rfl))) (Or.inr (hw _ (List.mem_of_getElem? (i := 49) rfl))) (by decide) (t := .int) (t' := .double) (by decide) (by decide)))
  have c1044_3 := Fw1041.other W1043 (Or.inr (slot_ne (Or.inr (hw _ (List.mem_of_getElem? (i := 47) rfl))) (Or.inr (hw _ (List.mem_of_getElem? (i := 49) rfl))) (by decide) (t := .boolean) (t' := .double) (by decide) (by decide)))
  have c1044_5 := c1042_5.other W1043 (Or.inr (slot_ne (Or.inr (hw _ (List.mem_of_getElem? (i := 51) rfl))) (Or.inr (hw _ (List.mem_of_getElem? (i := 49) rfl))) (by decide) (t := .double) (t' := .double) (by decide) (by decide)))
  have Z1043 : n0 ≤ h1043.size := Nat.le_trans Z1041 (Nat.le_of_eq W1043.size.symm)
  have K1043 : Keep h0 h1043 [a1] := K1041.wr W1043 (Or.inl (List.mem_of_getElem? (i := 0) rfl))
  have N1043 := Fr.snoc X1043 N1041 g1
  obtain ⟨T1045, h1045, X1045, e1045, W1045, st1045⟩ := putF X1043 hx hZ hown (host := "") (Or.inl (hw _ (List.mem_of_getElem? (i := 50) rfl))) Via.refl e1043 c1044_5 c1044_0 (Or.inr ⟨(hw _ (List.mem_of_getElem? (i := 51) rfl)), rfl, hnm⟩) (hw _ (List.mem_of_getElem? (i := 31) rfl)) (ty := .double) (by decide) rfl rfl (g := (mkF m 28 #[.val (.ref a1), .val (.ref a2), .val (.int u1), .val (.int wi), .val (.double d1), .second, .val (.double d2), .second] [(.double d2), (.ref a1)])) rfl rfl (hb hby d7_28)
  have Fw1045 := c1044_5.same W1045
  have c1046_0 := c1044_0.wr W1045
  have c1046_1 := c1044_1.other W1045 (Or.inr (slot_ne (Or.inr (hw _ (List.mem_of_getElem? (i := 43) rfl))) (Or.inr (hw _ (List.mem_of_getElem? (i := 51) rfl))) (by decide) (t := (.object "java/lang/String")) (t' := .double) (by decide) (by decide)))
  have c1046_2 := c1044_2.other W1045 (Or.inr (slot_ne (Or.inr (hw _ (List.mem_of_getElem? (i := 45) rfl))) (Or.inr (hw _ (List.mem_of_getElem? (i := 51) rfl))) (by decide) (t := .int) (t' := .double) (by decide) (by decide)))
  have c1046_3 := c1044_3.other W1045 (Or.inr (slot_ne (Or.inr (hw _ (List.mem_of_getElem? (i := 47) rfl))) (Or.inr (hw _ (List.mem_of_getElem? (i := 51) rfl))) (by decide) (t := .boolean) (t' := .double) (by decide) (by decide)))
  have c1046_4 := Fw1043.other W1045 (Or.inr (slot_ne (Or.inr (hw _ (List.mem_of_getElem? (i := 49) rfl))) (Or.inr (hw _ (List.mem_of_getElem? (i := 51) rfl))) (by decide) (t := .double) (t' := .double) (by decide) (by decide)))
  have Z1045 : n0 ≤ h1045.size := Nat.le_trans Z1043 (Nat.le_of_eq W1045.size.symm)
  have K1045 : Keep h0 h1045 [a1] := K1043.wr W1045 (Or.inl (List.mem_of_getElem? (i := 0) rfl))
  have N1045 := Fr.snoc X1045 N1043 g1
  have P1047 : ∀ t, Steps p.tables e below (T1045.setTop (mkF m 31 #[.val (.ref a1), .val (.ref a2), .val (.int u1), .val (.int wi), .val (.double d1), .second, .val (.double d2), .second] [])) t → Steps p.tables e below (s₁.setTop (entryFrame m #[(.ref a1), (.ref a2), (.int u1), (.int wi), (.double d1), (.double d2)] 8)) t := fun t k => P0 t (by
    refine XS.aloadN X0.here hx rfl (hb hby d7_0) rfl rfl ?_
    show Steps p.tables e below (s₁.setTop (mkF m 1 #[.val (.ref a1), .val (.ref a2), .val (.int u1), .val (.int wi), .val (.double d1), .second, .val (.double d2), .second] [(.ref a1)])) _
    refine st1036.trans ?_
    show Steps p.tables e below (T1036.setTop (mkF m 4 #[.val (.ref a1), .val (.ref a2), .val (.int u1), .val (.int wi), .val (.double d1), .second, .val (.double d2), .second] [])) _
    refine XS.aloadN X1036.here hx rfl (hb hby d7_4) rfl rfl ?_
    show Steps p.tables e below (T1036.setTop (mkF m 5 #[.val (.ref a1), .val (.ref a2), .val (.int u1), .val (.int wi), .val (.double d1), .second, .val (.double d2), .second] [(.ref a1)])) _
    refine XS.aloadN X1036.here hx rfl (hb hby d7_5) rfl rfl ?_
    show Steps p.tables e below (T1036.setTop (mkF m 6 #[.val (.ref a1), .val (.ref a2), .val (.int u1), .val (.int wi), .val (.double d1), .second, .val (.double d2), .second] [(.ref a2), (.ref a1)])) _
    refine st1037 _ ?_
    show Steps p.tables e below (T1037.setTop (mkF m 9 #[.val (.ref a1), .val (.ref a2), .val (.int u1), .val (.int wi), .val (.double d1), .second, .val (.double d2), .second] [])) _
    refine XS.aloadN X1037.here hx rfl (hb hby d7_9) rfl rfl ?_
    show Steps p.tables e below (T1037.setTop (mkF m 10 #[.val (.ref a1), .val (.ref a2), .val (.int u1), .val (.int wi), .val (.double d1), .second, .val (.double d2), .second] [(.ref a1)])) _
    refine XS.iloadN X1037.here hx rfl (hb hby d7_10) rfl ?_
    show Steps p.tables e below (T1037.setTop (mkF m 11 #[.val (.ref a1), .val (.ref a2), .val (.int u1), .val (.int wi), .val (.double d1), .second, .val (.double d2), .second] [(.int u1), (.ref a1)])) _
    refine st1039 _ ?_
    show Steps p.tables e below (T1039.setTop (mkF m 14 #[.val (.ref a1), .val (.ref a2), .val (.int u1), .val (.int wi), .val (.double d1), .second, .val (.double d2), .second] [])) _
    refine XS.aloadN X1039.here hx rfl (hb hby d7_14) rfl rfl ?_
    show Steps p.tables e below (T1039.setTop (mkF m 15 #[.val (.ref a1), .val (.ref a2), .val (.int u1), .val (.int wi), .val (.double d1), .second, .val (.double d2), .second] [(.ref a1)])) _
    refine XS.iloadN X1039.here hx rfl (hb hby d7_15) rfl ?_
    show Steps p.tables e below (T1039.setTop (mkF m 16 #[.val (.ref a1), .val (.ref a2), .val (.int u1), .val (.int wi), .val (.double d1), .second, .val (.double d2), .second] [(.int wi), (.ref a1)])) _
    refine st1041 _ ?_
    show Steps p.tables e below (T1041.setTop (mkF m 19 #[.val (.ref a1), .val (.ref a2), .val (.int u1), .val (.int wi), .val (.double d1), .second, .val (.double d2), .second] [])) _
    refine XS.aloadN X1041.here hx rfl (hb hby d7_19) rfl rfl ?_
    show Steps p.tables e below (T1041.setTop (mkF m 20 #[.val (.ref a1), .val (.ref a2), .val (.int u1), .val (.int wi), .val (.double d1), .second, .val (.double d2), .second] [(.ref a1)])) _
    refine XS.dload X1041.here hx rfl (hb hby d7_20) rfl ?_
    show Steps p.tables e below (T1041.setTop (mkF m 22 #[.val (.ref a1), .val (.ref a2), .val (.int u1), .val (.int wi), .val (.double d1), .second, .val (.double d2), .second] [(.double d1), (.ref a1)])) _
    refine st1043 _ ?_
    show Steps p.tables e below (T1043.setTop (mkF m 25 #[.val (.ref a1), .val (.ref a2), .val (.int u1), .val (.int wi), .val (.double d1), .second, .val (.double d2), .second] [])) _
    refine XS.aloadN X1043.here hx rfl (hb hby d7_25) rfl rfl ?_
    show Steps p.tables e below (T1043.setTop (mkF m 26 #[.val (.ref a1), .val (.ref a2), .val (.int u1), .val (.int wi), .val (.double d1), .second, .val (.double d2), .second] [(.ref a1)])) _
    refine XS.dload X1043.here hx rfl (hb hby d7_26) rfl ?_
    show Steps p.tables e below (T1043.setTop (mkF m 28 #[.val (.ref a1), .val (.ref a2), .val (.int u1), .val (.int wi), .val (.double d1), .second, .val (.double d2), .second] [(.double d2), (.ref a1)])) _
    refine st1045 _ ?_
    show Steps p.tables e below (T1045.setTop (mkF m 31 #[.val (.ref a1), .val (.ref a2), .val (.int u1), .val (.int wi), .val (.double d1), .second, .val (.double d2), .second] [])) _
    exact k)
  obtain ⟨fs, hr, hrun, hended, hW, hsame⟩ := X1045.leave (v := none) (fun _ => rfl)
  refine ⟨_, _, P1047 _ ?_, hrun, hended, _, _, rfl, ?_, ⟨_, rfl⟩, hW, hsame.mono (by decide) (by decide)⟩
  · exact X1045.returnOut hx Bd.returns (hb hby d7_31) hr
  · show Q_gri Z a1 a2 u1 wi d1 d2 h0 n0 _ T1045.heap _
    rw [e1045]
    exact ⟨rfl, N1045, K1045, c1046_0, c1046_1, c1046_3, c1046_4, Fw1045⟩
theorem ef_gkind (m : MethodId) (x0 : Addr) : entryFrame m #[(.ref x0)] 1 = mkF m 0 #[.val (.ref x0)] [] := by first | (simp [entryFrame, mkF, argsToLocals, Value.category]; done) | rfl
def Q_gkind (Z : State) (a1 : Addr) (u1 : Addr) (h0 : Heap) (n0 : Nat) (v : Option Value) (h : Heap) (L : List Loc) : Prop := v = some (.ref u1) ∧ Fr n0 L ∧ h = h0
theorem d10_0 : decode prog_77_method_5_code 0 = .ok (.aload_n 0, 1) := by decide +kernel
theorem d10_1 : decode prog_77_method_5_code 1 = .ok (.getfield 7, 3) := by decide +kernel
theorem d10_4 : decode prog_77_method_5_code 4 = .ok (.areturn, 1) := by decide +kernel
set_option maxRecDepth 65536 in
set_option maxHeartbeats 40000000 in
theorem rm_gkind (l : Launch) (Z : State) (a0 : Array Value) (hw : ∀ d ∈ tables_1, d.before a0 Z = true) (ws : List Jvm.Cond) (a1 : Addr) (u1 : Addr) (h0 : Heap) (n0 : Nat) (Z0 : n0 ≤ h0.size) (F1 : Fld Z h0 a1 "com/example/quorumline/quorumline/sim/Layout$Group" "kind" "Ljava/lang/String;" (.ref u1)) :
    MetFree l (⟨"com/example/quorumline/quorumline/sim/Layout$Group", "kind", "()Ljava/lang/String;"⟩ : MethodName) (head1 (Jvm.Cond.code (⟨"com/example/quorumline/quorumline/sim/Layout$Group", "kind", "()Ljava/lang/String;"⟩ : MethodName) prog_77_method_5_code 1 (some (.object "java/lang/String")) :: ws) ({ frames := 0, cells := 0, slots := 0, locals := 0 } : Room)) (fun a U => a = #[(.ref a1)] ∧ Z.Warmed39 U.vm ∧ U.heap = h0) (fun _ _ _ _ _ => True) (fun _ U o U' => ∃ v L, o = .returned v ∧ Q_gkind Z a1 u1 h0 n0 v U'.heap L ∧ FrameEnd U o U' L ({ frames := 0, cells := 0, slots := 0, locals := 0 } : Room).cells ({ frames := 0, cells := 0, slots := 0, locals := 0 } : Room).slots) := by
  refine MetFree.of_bodySF (plainFor_of_name pn_5) hisR ?_
  intro p e s m args below meth c s₁ Bd hml0 hP hK
  obtain ⟨rfl, hZ, hh⟩ := hP
  have hx := Bd.exec
  have hby := Bd.bytes
  have hml : c.maxLocals = 1 := hml0
  have hown : s.vm.findClass "com/example/quorumline/quorumline/sim/Layout$Group" = some m.cls := findClass_of_methodNamed Bd.named
  have hnm := (name_of_methodNamed Bd.named Bd.method).1
  have X0 : Stand p l e ({ frames := 0, cells := 0, slots := 0, locals := 0 } : Room) s m #[(.ref a1)] below meth c s₁ [] 0 0 := Stand.of_body Bd
  have e0 : s₁.heap = h0 := by rw [← hh, Bd.state]; rfl
  have N0 := Fr.nil n0
  have K0 : Keep h0 h0 [] := Keep.refl h0 []
  have P0 : ∀ t, Steps p.tables e below (s₁.setTop (mkF m 0 #[.val (.ref a1)] [])) t → Steps p.tables e below (s₁.setTop (entryFrame m #[(.ref a1)] 1)) t := fun t k => castTop (ef_gkind m a1) k
  obtain ⟨T1048, X1048, e1048, st1048⟩ := getF X0 hx hZ hown (host := "") (Or.inl (hw _ (List.mem_of_getElem? (i := 42) rfl))) Via.refl e0 F1 (g := (mkF m 1 #[.val (.ref a1)] [(.ref a1)])) rfl rfl (hb hby d10_1)
  have P1049 : ∀ t, Steps p.tables e below (T1048.setTop (mkF m 4 #[.val (.ref a1)] [(.ref u1)])) t → Steps p.tables e below (s₁.setTop (entryFrame m #[(.ref a1)] 1)) t := fun t k => P0 t (by
    refine XS.aloadN X0.here hx rfl (hb hby d10_0) rfl rfl ?_
    show Steps p.tables e below (s₁.setTop (mkF m 1 #[.val (.ref a1)] [(.ref a1)])) _
    refine st1048 _ ?_
    show Steps p.tables e below (T1048.setTop (mkF m 4 #[.val (.ref a1)] [(.ref u1)])) _
    exact k)
  obtain ⟨fs, hr, hrun, hended, hW, hsame⟩ := X1048.leave (v := some (.ref u1)) (fun h => by rw [Bd.returns] at h; cases h)
  refine ⟨_, _, P1049 _ ?_, hrun, hended, _, _, rfl, ?_, ⟨_, rfl⟩, hW, hsame.mono (by decide) (by decide)⟩
  · jvm_step X1048.here [X1048.here.top, hx, (hb hby d10_4), X1048.method', Bd.returns, Value.isRef, FieldType.isReference]
    first | (intro acts; rw [hr _ acts rfl rfl rfl]) | rw [hr _ _ rfl rfl rfl]
    exact Steps.refl _
  · show Q_gkind Z a1 u1 h0 n0 _ T1048.heap _
    rw [e1048]
    exact ⟨rfl, N0, rfl⟩
theorem ef_gcpu (m : MethodId) (x0 : Addr) : entryFrame m #[(.ref x0)] 1 = mkF m 0 #[.val (.ref x0)] [] := by first | (simp [entryFrame, mkF, argsToLocals, Value.category]; done) | rfl
def Q_gcpu (Z : State) (a1 : Addr) (u1 : UInt64) (h0 : Heap) (n0 : Nat) (v : Option Value) (h : Heap) (L : List Loc) : Prop := v = some (.double u1) ∧ Fr n0 L ∧ h = h0
theorem d11_0 : decode prog_77_method_8_code 0 = .ok (.aload_n 0, 1) := by decide +kernel
theorem d11_1 : decode prog_77_method_8_code 1 = .ok (.getfield 21, 3) := by decide +kernel
theorem d11_4 : decode prog_77_method_8_code 4 = .ok (.dreturn, 1) := by decide +kernel
set_option maxRecDepth 65536 in
set_option maxHeartbeats 40000000 in
theorem rm_gcpu (l : Launch) (Z : State) (a0 : Array Value) (hw : ∀ d ∈ tables_1, d.before a0 Z = true) (ws : List Jvm.Cond) (a1 : Addr) (u1 : UInt64) (h0 : Heap) (n0 : Nat) (Z0 : n0 ≤ h0.size) (F1 : Fld Z h0 a1 "com/example/quorumline/quorumline/sim/Layout$Group" "cpuSlice" "D" (.double u1)) :
    MetFree l (⟨"com/example/quorumline/quorumline/sim/Layout$Group", "cpuSlice", "()D"⟩ : MethodName) (head1 (Jvm.Cond.code (⟨"com/example/quorumline/quorumline/sim/Layout$Group", "cpuSlice", "()D"⟩ : MethodName) prog_77_method_8_code 1 (some .double) :: ws) ({ frames := 0, cells := 0, slots := 0, locals := 0 } : Room)) (fun a U => a = #[(.ref a1)] ∧ Z.Warmed39 U.vm ∧ U.heap = h0) (fun _ _ _ _ _ => True) (fun _ U o U' => ∃ v L, o = .returned v ∧ Q_gcpu Z a1 u1 h0 n0 v U'.heap L ∧ FrameEnd U o U' L ({ frames := 0, cells := 0, slots := 0, locals := 0 } : Room).cells ({ frames := 0, cells := 0, slots := 0, locals := 0 } : Room).slots) := by
  refine MetFree.of_bodySF (plainFor_of_name pn_5) hisR ?_
  intro p e s m args below meth c s₁ Bd hml0 hP hK
  obtain ⟨rfl, hZ, hh⟩ := hP
  have hx := Bd.exec
  have hby := Bd.bytes
  have hml : c.maxLocals = 1 := hml0
  have hown : s.vm.findClass "com/example/quorumline/quorumline/sim/Layout$Group" = some m.cls := findClass_of_methodNamed Bd.named
  have hnm := (name_of_methodNamed Bd.named Bd.method).1
  have X0 : Stand p l e ({ frames := 0, cells := 0, slots := 0, locals := 0 } : Room) s m #[(.ref a1)] below meth c s₁ [] 0 0 := Stand.of_body Bd
  have e0 : s₁.heap = h0 := by rw [← hh, Bd.state]; rfl
  have N0 := Fr.nil n0
  have K0 : Keep h0 h0 [] := Keep.refl h0 []
  have P0 : ∀ t, Steps p.tables e below (s₁.setTop (mkF m 0 #[.val (.ref a1)] [])) t → Steps p.tables e below (s₁.setTop (entryFrame m #[(.ref a1)] 1)) t := fun t k => castTop (ef_gcpu m a1) k
  obtain ⟨T1050, X1050, e1050, st1050⟩ := getF X0 hx hZ hown (host := "") (Or.inl (hw _ (List.mem_of_getElem? (i := 48) rfl))) Via.refl e0 F1 (g := (mkF m 1 #[.val (.ref a1)] [(.ref a1)])) rfl rfl (hb hby d11_1)
  have P1051 : ∀ t, Steps p.tables e below (T1050.setTop (mkF m 4 #[.val (.ref a1)] [(.double u1)])) t → Steps p.tables e below (s₁.setTop (entryFrame m #[(.ref a1)] 1)) t := fun t k => P0 t (by
    refine XS.aloadN X0.here hx rfl (hb hby d11_0) rfl rfl ?_
    show Steps p.tables e below (s₁.setTop (mkF m 1 #[.val (.ref a1)] [(.ref a1)])) _
    refine st1050 _ ?_
    show Steps p.tables e below (T1050.setTop (mkF m 4 #[.val (.ref a1)] [(.double u1)])) _
    exact k)
  obtain ⟨fs, hr, hrun, hended, hW, hsame⟩ := X1050.leave (v := some (.double u1)) (fun h => by rw [Bd.returns] at h; cases h)
  refine ⟨_, _, P1051 _ ?_, hrun, hended, _, _, rfl, ?_, ⟨_, rfl⟩, hW, hsame.mono (by decide) (by decide)⟩
  · jvm_step X1050.here [X1050.here.top, hx, (hb hby d11_4), X1050.method', Bd.returns, narrow]
    first | (intro acts; rw [hr _ acts rfl rfl rfl]) | rw [hr _ _ rfl rfl rfl]
    exact Steps.refl _
  · show Q_gcpu Z a1 u1 h0 n0 _ T1050.heap _
    rw [e1050]
    exact ⟨rfl, N0, rfl⟩
theorem ef_gmsg (m : MethodId) (x0 : Addr) : entryFrame m #[(.ref x0)] 1 = mkF m 0 #[.val (.ref x0)] [] := by first | (simp [entryFrame, mkF, argsToLocals, Value.category]; done) | rfl
def Q_gmsg (Z : State) (a1 : Addr) (u1 : UInt64) (h0 : Heap) (n0 : Nat) (v : Option Value) (h : Heap) (L : List Loc) : Prop := v = some (.double u1) ∧ Fr n0 L ∧ h = h0
theorem d12_0 : decode prog_77_method_9_code 0 = .ok (.aload_n 0, 1) := by decide +kernel
theorem d12_1 : decode prog_77_method_9_code 1 = .ok (.getfield 25, 3) := by decide +kernel
theorem d12_4 : decode prog_77_method_9_code 4 = .ok (.dreturn, 1) := by decide +kernel
set_option maxRecDepth 65536 in
set_option maxHeartbeats 40000000 in
theorem rm_gmsg (l : Launch) (Z : State) (a0 : Array Value) (hw : ∀ d ∈ tables_1, d.before a0 Z = true) (ws : List Jvm.Cond) (a1 : Addr) (u1 : UInt64) (h0 : Heap) (n0 : Nat) (Z0 : n0 ≤ h0.size) (F1 : Fld Z h0 a1 "com/example/quorumline/quorumline/sim/Layout$Group" "messageCpu" "D" (.double u1)) :
    MetFree l (⟨"com/example/quorumline/quorumline/sim/Layout$Group", "messageCpu", "()D"⟩ : MethodName) (head1 (Jvm.Cond.code (⟨"com/example/quorumline/quorumline/sim/Layout$Group", "messageCpu", "()D"⟩ : MethodName) prog_77_method_9_code 1 (some .double) :: ws) ({ frames := 0, cells := 0, slots := 0, locals := 0 } : Room)) (fun a U => a = #[(.ref a1)] ∧ Z.Warmed39 U.vm ∧ U.heap = h0) (fun _ _ _ _ _ => True) (fun _ U o U' => ∃ v L, o = .returned v ∧ Q_gmsg Z a1 u1 h0 n0 v U'.heap L ∧ FrameEnd U o U' L ({ frames := 0, cells := 0, slots := 0, locals := 0 } : Room).cells ({ frames := 0, cells := 0, slots := 0, locals := 0 } : Room).slots) := by
  refine MetFree.of_bodySF (plainFor_of_name pn_5) hisR ?_
  intro p e s m args below meth c s₁ Bd hml0 hP hK
  obtain ⟨rfl, hZ, hh⟩ := hP
  have hx := Bd.exec
  have hby := Bd.bytes
  have hml : c.maxLocals = 1 := hml0
  have hown : s.vm.findClass "com/example/quorumline/quorumline/sim/Layout$Group" = some m.cls := findClass_of_methodNamed Bd.named
  have hnm := (name_of_methodNamed Bd.named Bd.method).1
  have X0 : Stand p l e ({ frames := 0, cells := 0, slots := 0, locals := 0 } : Room) s m #[(.ref a1)] below meth c s₁ [] 0 0 := Stand.of_body Bd
  have e0 : s₁.heap = h0 := by rw [← hh, Bd.state]; rfl
  have N0 := Fr.nil n0
  have K0 : Keep h0 h0 [] := Keep.refl h0 []
  have P0 : ∀ t, Steps p.tables e below (s₁.setTop (mkF m 0 #[.val (.ref a1)] [])) t → Steps p.tables e below (s₁.setTop (entryFrame m #[(.ref a1)] 1)) t := fun t k => castTop (ef_gmsg m a1) k
  obtain ⟨T1052, X1052, e1052, st1052⟩ := getF X0 hx hZ hown (host := "") (Or.inl (hw _ (List.mem_of_getElem? (i := 50) rfl))) Via.refl e0 F1 (g := (mkF m 1 #[.val (.ref a1)] [(.ref a1)])) rfl rfl (hb hby d12_1)
  have P1053 : ∀ t, Steps p.tables e below (T1052.setTop (mkF m 4 #[.val (.ref a1)] [(.double u1)])) t → Steps p.tables e below (s₁.setTop (entryFrame m #[(.ref a1)] 1)) t := fun t k => P0 t (by
    refine XS.aloadN X0.here hx rfl (hb hby d12_0) rfl rfl ?_
    show Steps p.tables e below (s₁.setTop (mkF m 1 #[.val (.ref a1)] [(.ref a1)])) _
    refine st1052 _ ?_
    show Steps p.tables e below (T1052.setTop (mkF m 4 #[.val (.ref a1)] [(.double u1)])) _
    exact k)
  obtain ⟨fs, hr, hrun, hended, hW, hsame⟩ := X1052.leave (v := some (.double u1)) (fun h => by rw [Bd.returns] at h; cases h)
  refine ⟨_, _, P1053 _ ?_, hrun, hended, _, _, rfl, ?_, ⟨_, rfl⟩, hW, hsame.mono (by decide) (by decide)⟩
  · jvm_step X1052.here [X1052.here.top, hx, (hb hby d12_4), X1052.method', Bd.returns, narrow]
    first | (intro acts; rw [hr _ acts rfl rfl rfl]) | rw [hr _ _ rfl rfl rfl]
    exact Steps.refl _
  · show Q_gmsg Z a1 u1 h0 n0 _ T1052.heap _
    rw [e1052]
    exact ⟨rfl, N0, rfl⟩
theorem ef_gio (m : MethodId) (x0 : Addr) : entryFrame m #[(.ref x0)] 1 = mkF m 0 #[.val (.ref x0)] [] := by first | (simp [entryFrame, mkF, argsToLocals, Value.category]; done) | rfl
def Q_gio (Z : State) (a1 : Addr) (u1 : Int32) (h0 : Heap) (n0 : Nat) (v : Option Value) (h : Heap) (L : List Loc) : Prop := v = some (.int u1) ∧ Fr n0 L ∧ h = h0
theorem d13_0 : decode prog_77_method_7_code 0 = .ok (.aload_n 0, 1) := by decide +kernel
theorem d13_1 : decode prog_77_method_7_code 1 = .ok (.getfield 17, 3) := by decide +kernel
theorem d13_4 : decode prog_77_method_7_code 4 = .ok (.ireturn, 1) := by decide +kernel
set_option maxRecDepth 65536 in
set_option maxHeartbeats 40000000 in
theorem rm_gio (l : Launch) (Z : State) (a0 : Array Value) (hw : ∀ d ∈ tables_1, d.before a0 Z = true) (ws : List Jvm.Cond) (a1 : Addr) (u1 : Int32) (h0 : Heap) (n0 : Nat) (Z0 : n0 ≤ h0.size) (F1 : Fld Z h0 a1 "com/example/quorumline/quorumline/sim/Layout$Group" "io" "Z" (.int u1)) (hwi : u1 = 0 ∨ u1 = 1) :
    MetFree l (⟨"com/example/quorumline/quorumline/sim/Layout$Group", "io", "()Z"⟩ : MethodName) (head1 (Jvm.Cond.code (⟨"com/example/quorumline/quorumline/sim/Layout$Group", "io", "()Z"⟩ : MethodName) prog_77_method_7_code 1 (some .boolean) :: ws) ({ frames := 0, cells := 0, slots := 0, locals := 0 } : Room)) (fun a U => a = #[(.ref a1)] ∧ Z.Warmed39 U.vm ∧ U.heap = h0) (fun _ _ _ _ _ => True) (fun _ U o U' => ∃ v L, o = .returned v ∧ Q_gio Z a1 u1 h0 n0 v U'.heap L ∧ FrameEnd U o U' L ({ frames := 0, cells := 0, slots := 0, locals := 0 } : Room).cells ({ frames := 0, cells := 0, slots := 0, locals := 0 } : Room).slots) := by
  refine MetFree.of_bodySF (plainFor_of_name pn_5) hisR ?_
  intro p e s m args below meth c s₁ Bd hml0 hP hK
  obtain ⟨rfl, hZ, hh⟩ := hP
  have hx := Bd.exec
  have hby := Bd.bytes
  have hml : c.maxLocals = 1 := hml0
  have hown : s.vm.findClass "com/example/quorumline/quorumline/sim/Layout$Group" = some m.cls := findClass_of_methodNamed Bd.named
  have hnm := (name_of_methodNamed Bd.named Bd.method).1
  have X0 : Stand p l e ({ frames := 0, cells := 0, slots := 0, locals := 0 } : Room) s m #[(.ref a1)] below meth c s₁ [] 0 0 := Stand.of_body Bd
  have e0 : s₁.heap = h0 := by rw [← hh, Bd.state]; rfl
  have N0 := Fr.nil n0
  have K0 : Keep h0 h0 [] := Keep.refl h0 []
  have P0 : ∀ t, Steps p.tables e below (s₁.setTop (mkF m 0 #[.val (.ref a1)] [])) t → Steps p.tables e below (s₁.setTop (entryFrame m #[(.ref a1)] 1)) t := fun t k => castTop (ef_gio m a1) k
  obtain ⟨T1054, X1054, e1054, st1054⟩ := getF X0 hx hZ hown (host := "") (Or.inl (hw _ (List.mem_of_getElem? (i := 46) rfl))) Via.refl e0 F1 (g := (mkF m 1 #[.val (.ref a1)] [(.ref a1)])) rfl rfl (hb hby d13_1)
  have P1055 : ∀ t, Steps p.tables e below (T1054.setTop (mkF m 4 #[.val (.ref a1)] [(.int u1)])) t → Steps p.tables e below (s₁.setTop (entryFrame m #[(.ref a1)] 1)) t := fun t k => P0 t (by
    refine XS.aloadN X0.here hx rfl (hb hby d13_0) rfl rfl ?_
    show Steps p.tables e below (s₁.setTop (mkF m 1 #[.val (.ref a1)] [(.ref a1)])) _
    refine st1054 _ ?_
    show Steps p.tables e below (T1054.setTop (mkF m 4 #[.val (.ref a1)] [(.int u1)])) _
    exact k)
  obtain ⟨fs, hr, hrun, hended, hW, hsame⟩ := X1054.leave (v := some (.int u1)) (fun h => by rw [Bd.returns] at h; cases h)
  refine ⟨_, _, P1055 _ ?_, hrun, hended, _, _, rfl, ?_, ⟨_, rfl⟩, hW, hsame.mono (by decide) (by decide)⟩
  · exact retN X1054 hx (t := .boolean) Bd.returns (by simp) (hb hby d13_4) (by rw [own_nar hwi]; exact hr)
  · show Q_gio Z a1 u1 h0 n0 _ T1054.heap _
    rw [e1054]
    exact ⟨rfl, N0, rfl⟩
theorem ef_sii (m : MethodId) (x0 : Addr) (x1 : Int32) (x2 : Addr) : entryFrame m #[(.ref x0), (.int x1), (.ref x2), .null, .null] 5 = mkF m 0 #[.val (.ref x0), .val (.int x1), .val (.ref x2), .val .null, .val .null] [] := by first | (simp [entryFrame, mkF, argsToLocals, Value.category]; done) | rfl
def Q_sii (Z : State) (a1 : Addr) (u1 : Int32) (a2 : Addr) (a3 : Addr) (wi : Int32) (d1 : UInt64) (d2 : UInt64) (ms : Addr) (h0 : Heap) (n0 : Nat) (v : Option Value) (h : Heap) (L : List Loc) : Prop := ∃ (ri : Value) (rc : Addr), v = none ∧ Fr n0 L ∧ Keep h0 h [a1] ∧ Exa Z h a1 "com/example/quorumline/quorumline/sim/Site" ∧ Fld Z h a1 "com/example/quorumline/quorumline/sim/Site" "number" "I" (.int u1) ∧ Fld Z h a1 "com/example/quorumline/quorumline/sim/Site" "io" "Lcom/example/quorumline/quorumline/sim/Server;" ri ∧ Fld Z h a1 "com/example/quorumline/quorumline/sim/Site" "cpu" "Lcom/example/quorumline/quorumline/sim/Server;" (.ref rc) ∧ ((wi = 1 ∧ ∃ a, ri = .ref a) ∨ (wi = 0 ∧ ri = .null))
theorem pn_6 : plainName "com/example/quorumline/quorumline/sim/Site" = true := by first | (simp [plainName, overriddenIn]; done) | decide +kernel
theorem d9_0 : decode prog_94_method_1_code 0 = .ok (.aload_n 0, 1) := by decide +kernel
theorem d9_1 : decode prog_94_method_1_code 1 = .ok (.invokespecial 1, 3) := by decide +kernel
theorem d9_4 : decode prog_94_method_1_code 4 = .ok (.aload_n 0, 1) := by decide +kernel
theorem d9_5 : decode prog_94_method_1_code 5 = .ok (.iload_n 1, 1) := by decide +kernel
theorem d9_6 : decode prog_94_method_1_code 6 = .ok (.putfield 7, 3) := by decide +kernel
theorem d9_9 : decode prog_94_method_1_code 9 = .ok (.aload_n 0, 1) := by decide +kernel
theorem d9_10 : decode prog_94_method_1_code 10 = .ok (.aload_n 2, 1) := by decide +kernel
theorem d9_11 : decode prog_94_method_1_code 11 = .ok (.invokevirtual 13, 3) := by decide +kernel
theorem pd_2 : parseMethodDescriptor "()Ljava/lang/String;" = some ⟨[], some (.object "java/lang/String")⟩ := by decide +kernel
theorem d9_14 : decode prog_94_method_1_code 14 = .ok (.putfield 19, 3) := by decide +kernel
theorem d9_17 : decode prog_94_method_1_code 17 = .ok (.aload_n 0, 1) := by decide +kernel
theorem d9_18 : decode prog_94_method_1_code 18 = .ok (.aload_n 2, 1) := by decide +kernel
theorem d9_19 : decode prog_94_method_1_code 19 = .ok (.invokevirtual 22, 3) := by decide +kernel
theorem pd_3 : parseMethodDescriptor "()D" = some ⟨[], some .double⟩ := by decide +kernel
theorem d9_22 : decode prog_94_method_1_code 22 = .ok (.putfield 26, 3) := by decide +kernel
theorem d9_25 : decode prog_94_method_1_code 25 = .ok (.aload_n 0, 1) := by decide +kernel
theorem d9_26 : decode prog_94_method_1_code 26 = .ok (.aload_n 2, 1) := by decide +kernel
theorem d9_27 : decode prog_94_method_1_code 27 = .ok (.invokevirtual 29, 3) := by decide +kernel
theorem d9_30 : decode prog_94_method_1_code 30 = .ok (.putfield 32, 3) := by decide +kernel
theorem d9_33 : decode prog_94_method_1_code 33 = .ok (.aload_n 0, 1) := by decide +kernel
theorem d9_34 : decode prog_94_method_1_code 34 = .ok (.aload_n 2, 1) := by decide +kernel
theorem d9_35 : decode prog_94_method_1_code 35 = .ok (.invokevirtual 34, 3) := by decide +kernel
theorem pd_4 : parseMethodDescriptor "()Z" = some ⟨[], some .boolean⟩ := by decide +kernel
theorem d9_38 : decode prog_94_method_1_code 38 = .ok (.ifCond .eq 16, 3) := by decide +kernel
theorem d9_54 : decode prog_94_method_1_code 54 = .ok (.aconst_null, 1) := by decide +kernel
theorem d9_55 : decode prog_94_method_1_code 55 = .ok (.putfield 43, 3) := by decide +kernel
theorem d9_58 : decode prog_94_method_1_code 58 = .ok (.aload_n 0, 1) := by decide +kernel
theorem d9_59 : decode prog_94_method_1_code 59 = .ok (.new 38, 3) := by decide +kernel
theorem d9_62 : decode prog_94_method_1_code 62 = .ok (.dup, 1) := by decide +kernel
theorem d9_63 : decode prog_94_method_1_code 63 = .ok (.aload_n 3, 1) := by decide +kernel
theorem d9_64 : decode prog_94_method_1_code 64 = .ok (.aload 4, 2) := by decide +kernel
theorem d9_66 : decode prog_94_method_1_code 66 = .ok (.invokespecial 40, 3) := by decide +kernel
theorem pd_5 : parseMethodDescriptor "(Lcom/example/quorumline/quorumline/sim/Calendar;Lcom/example/quorumline/quorumline/sim/Queues;)V" = some ⟨[(.object "com/example/quorumline/quorumline/sim/Calendar"), (.object "com/example/quorumline/quorumline/sim/Queues")], none⟩ := by decide +kernel
theorem d9_69 : decode prog_94_method_1_code 69 = .ok (.putfield 46, 3) := by decide +kernel
theorem d9_72 : decode prog_94_method_1_code 72 = .ok (.return_, 1) := by decide +kernel
theorem d9_41 : decode prog_94_method_1_code 41 = .ok (.new 38, 3) := by decide +kernel
theorem d9_44 : decode prog_94_method_1_code 44 = .ok (.dup, 1) := by decide +kernel
theorem d9_45 : decode prog_94_method_1_code 45 = .ok (.aload_n 3, 1) := by decide +kernel
theorem d9_46 : decode prog_94_method_1_code 46 = .ok (.aload 4, 2) := by decide +kernel
theorem d9_48 : decode prog_94_method_1_code 48 = .ok (.invokespecial 40, 3) := by decide +kernel
theorem d9_51 : decode prog_94_method_1_code 51 = .ok (.goto 4, 3) := by decide +kernel
set_option maxRecDepth 65536 in
set_option maxHeartbeats 40000000 in
theorem rm_sii (l : Launch) (Z : State) (a0 : Array Value) (hw : ∀ d ∈ tables_1, d.before a0 Z = true) (ws : List Jvm.Cond) (a1 : Addr) (u1 : Int32) (a2 : Addr) (a3 : Addr) (wi : Int32) (d1 : UInt64) (d2 : UInt64) (ms : Addr) (h0 : Heap) (n0 : Nat) (Z0 : n0 ≤ h0.size) (E1 : Exa Z h0 a1 "com/example/quorumline/quorumline/sim/Site") (F0 : Fld Z h0 a1 "com/example/quorumline/quorumline/sim/Site" "number" "I" (.int (0 : Int32))) (F1 : Fld Z h0 a1 "com/example/quorumline/quorumline/sim/Site" "kind" "Ljava/lang/String;" .null) (F2 : Fld Z h0 a1 "com/example/quorumline/quorumline/sim/Site" "cpuSlice" "D" (.double (0 : UInt64))) (F3 : Fld Z h0 a1 "com/example/quorumline/quorumline/sim/Site" "messageCpu" "D" (.double (0 : UInt64))) (F4 : Fld Z h0 a1 "com/example/quorumline/quorumline/sim/Site" "io" "Lcom/example/quorumline/quorumline/sim/Server;" .null) (F5 : Fld Z h0 a1 "com/example/quorumline/quorumline/sim/Site" "cpu" "Lcom/example/quorumline/quorumline/sim/Server;" .null) (g1 : n0 ≤ a1) (E2 : Exa Z h0 a2 "com/example/quorumline/quorumline/sim/Layout$Group") (G_kind : Fld Z h0 a2 "com/example/quorumline/quorumline/sim/Layout$Group" "kind" "Ljava/lang/String;" (.ref a3)) (G_io : Fld Z h0 a2 "com/example/quorumline/quorumline/sim/Layout$Group" "io" "Z" (.int wi)) (G_cpuSlice : Fld Z h0 a2 "com/example/quorumline/quorumline/sim/Layout$Group" "cpuSlice" "D" (.double d1)) (G_messageCpu : Fld Z h0 a2 "com/example/quorumline/quorumline/sim/Layout$Group" "messageCpu" "D" (.double d2)) (hwi : wi = 0 ∨ wi = 1) (SM : Sta Z Z.heap "com/example/quorumline/quorumline/sim/Moment" "START" "Lcom/example/quorumline/quorumline/sim/Moment;" (.ref ms)) (O1 : Old Z n0 h0) :
    MetFree l (⟨"com/example/quorumline/quorumline/sim/Site", "<init>", "(ILcom/example/quorumline/quorumline/sim/Layout$Group;Lcom/example/quorumline/quorumline/sim/Calendar;Lcom/example/quorumline/quorumline/sim/Queues;)V"⟩ : MethodName) (head1 (Jvm.Cond.code (⟨"com/example/quorumline/quorumline/sim/Site", "<init>", "(ILcom/example/quorumline/quorumline/sim/Layout$Group;Lcom/example/quorumline/quorumline/sim/Calendar;Lcom/example/quorumline/quorumline/sim/Queues;)V"⟩ : MethodName) prog_94_method_1_code 5 none :: ws) ({ frames := 4, cells := 8, slots := 58, locals := 54 } : Room)) (fun a U => a = #[(.ref a1), (.int u1), (.ref a2), .null, .null] ∧ Z.Warmed39 U.vm ∧ U.heap = h0) (fun _ _ _ _ _ => True) (fun _ U o U' => ∃ v L, o = .returned v ∧ Q_sii Z a1 u1 a2 a3 wi d1 d2 ms h0 n0 v U'.heap L ∧ FrameEnd U o U' L ({ frames := 4, cells := 8, slots := 58, locals := 54 } : Room).cells ({ frames := 4, cells := 8, slots := 58, locals := 54 } : Room).slots) := by
  refine MetFree.of_bodySF (plainFor_of_name pn_6) hisR ?_
  intro p e s m args below meth c s₁ Bd hml0 hP hK
  obtain ⟨rfl, hZ, hh⟩ := hP
  have hx := Bd.exec
  have hby := Bd.bytes
  have hml : c.maxLocals = 5 := hml0
  have hown : s.vm.findClass "com/example/quorumline/quorumline/sim/Site" = some m.cls := findClass_of_methodNamed Bd.named
  have hnm := (name_of_methodNamed Bd.named Bd.method).1
  have X0 : Stand p l e ({ frames := 4, cells := 8, slots := 58, locals := 54 } : Room) s m #[(.ref a1), (.int u1), (.ref a2), .null, .null] below meth c s₁ [] 0 0 := Stand.of_body Bd
  have e0 : s₁.heap = h0 := by rw [← hh, Bd.state]; rfl
  have N0 := Fr.nil n0
  have K0 : Keep h0 h0 [a1] := Keep.refl h0 [a1]
  have P0 : ∀ t, Steps p.tables e below (s₁.setTop (mkF m 0 #[.val (.ref a1), .val (.int u1), .val (.ref a2), .val .null, .val .null] [])) t → Steps p.tables e below (s₁.setTop (entryFrame m #[(.ref a1), (.int u1), (.ref a2), .null, .null] 5)) t := fun t k => castTop (ef_sii m a1 u1 a2) k
  obtain ⟨T1056, X1056, e1056, st1056⟩ := initO X0 hx hZ hown (hw _ (List.mem_of_getElem? (i := 58) rfl)) (hw _ (List.mem_of_getElem? (i := 12) rfl)) (hw _ (List.mem_of_getElem? (i := 13) rfl)) e0 (g := (mkF m 1 #[.val (.ref a1), .val (.int u1), .val (.ref a2), .val .null, .val .null] [(.ref a1)])) rfl (by rw [hml]; rfl) rfl (hb hby d9_1) (by decide) (W := 0) (by show 2 * 0 + _ ≤ _; exact Nat.le_of_eq rfl) (by decide)
  obtain ⟨T1057, h1057, X1057, e1057, W1057, st1057⟩ := putF X1056 hx hZ hown (host := "") (Or.inl (hw _ (List.mem_of_getElem? (i := 59) rfl))) Via.refl e1056 F0 E1 (Or.inr ⟨(hw _ (List.mem_of_getElem? (i := 60) rfl)), rfl, hnm⟩) (hw _ (List.mem_of_getElem? (i := 53) rfl)) (ty := .int) (by decide) rfl rfl (g := (mkF m 6 #[.val (.ref a1), .val (.int u1), .val (.ref a2), .val .null, .val .null] [(.int u1), (.ref a1)])) rfl rfl (hb hby d9_6)
  have Fw1057 := F0.same W1057
  have c1058_0 := E1.wr W1057
  have c1058_2 := F1.other W1057 (Or.inr (slot_ne (Or.inr (hw _ (List.mem_of_getElem? (i := 67) rfl))) (Or.inr (hw _ (List.mem_of_getElem? (i := 60) rfl))) (by decide) (t := (.object "java/lang/String")) (t' := .int) (by decide) (by decide)))
  have c1058_3 := F2.other W1057 (Or.inr (slot_ne (Or.inr (hw _ (List.mem_of_getElem? (i := 74) rfl))) (Or.inr (hw _ (List.mem_of_getElem? (i := 60) rfl))) (by decide) (t := .double) (t' := .int) (by decide) (by decide)))
  have c1058_4 := F3.other W1057 (Or.inr (slot_ne (Or.inr (hw _ (List.mem_of_getElem? (i := 81) rfl))) (Or.inr (hw _ (List.mem_of_getElem? (i := 60) rfl))) (by decide) (t := .double) (t' := .int) (by decide) (by decide)))
  have c1058_5 := F4.other W1057 (Or.inr (slot_ne (Or.inr (hw _ (List.mem_of_getElem? (i := 134) rfl))) (Or.inr (hw _ (List.mem_of_getElem? (i := 60) rfl))) (by decide) (t := (.object "com/example/quorumline/quorumline/sim/Server")) (t' := .int) (by decide) (by decide)))
  have c1058_6 := F5.other W1057 (Or.inr (slot_ne (Or.inr (hw _ (List.mem_of_getElem? (i := 136) rfl))) (Or.inr (hw _ (List.mem_of_getElem? (i := 60) rfl))) (by decide) (t := (.object "com/example/quorumline/quorumline/sim/Server")) (t' := .int) (by decide) (by decide)))
  have c1058_7 := O1.wr W1057 g1
  have c1058_8 := E2.wr W1057
  have c1058_9 := G_kind.other W1057 (Or.inl (ne_exa E2 E1 (by decide)))
  have c1058_10 := G_io.other W1057 (Or.inl (ne_exa E2 E1 (by decide)))
  have c1058_11 := G_cpuSlice.other W1057 (Or.inl (ne_exa E2 E1 (by decide)))
  have c1058_12 := G_messageCpu.other W1057 (Or.inl (ne_exa E2 E1 (by decide)))
  have Z1057 : n0 ≤ h1057.size := Nat.le_trans Z0 (Nat.le_of_eq W1057.size.symm)
  have K1057 : Keep h0 h1057 [a1] := K0.wr W1057 (Or.inl (List.mem_of_getElem? (i := 0) rfl))
  have N1057 := Fr.snoc X1057 N0 g1
  obtain ⟨cq1059, kq1059, q1059a, q1059b, q1059c⟩ := isOf hZ e1057 c1058_8
  obtain ⟨_, _, ⟨T1059, L1059, k1059, n1059⟩, -, X1059, ⟨Lc1059, hQ1059, l1059, y1059, z1059⟩, st1059⟩ := X1057.virtualBack hx (y := (⟨"com/example/quorumline/quorumline/sim/Layout$Group", "kind", "()Ljava/lang/String;"⟩ : MethodName)) (z := (⟨"com/example/quorumline/quorumline/sim/Layout$Group", "kind", "()Ljava/lang/String;"⟩ : MethodName)) hown (mvT hZ (hw _ (List.mem_of_getElem? (i := 61) rfl))) (mvT hZ (hw _ (List.mem_of_getElem? (i := 62) rfl))) (notFace_of_selects (args := #[]) (mvT hZ (hw _ (List.mem_of_getElem? (i := 64) rfl)))) (mvT hZ (hw _ (List.mem_of_getElem? (i := 64) rfl))) (mvT hZ (hw _ (List.mem_of_getElem? (i := 63) rfl))) (by decide) (backOf (W := 1) (rm_gkind l Z a0 hw [] a2 a3 h1057 n0 Z1057 c1058_9) hZ (hw _ (List.mem_of_getElem? (i := 65) rfl)) (hw _ (List.mem_of_getElem? (i := 32) rfl)) (by decide) (by decide)) q1059a q1059c (g := (mkF m 11 #[.val (.ref a1), .val (.int u1), .val (.ref a2), .val .null, .val .null] [(.ref a2), (.ref a1)])) rfl (by rw [hml]; rfl) (Steps.refl _) (argsL := []) (rest := [(.ref a1)]) (lenOf pd_2 rfl) rfl (by show 2 * 0 + _ ≤ _; exact Nat.le_of_eq rfl) (hb hby d9_11) (fun _ _ => ⟨rfl, e1057, (by decide : 0 + 0 ≤ _), (by decide : 0 + 0 ≤ _)⟩)
  dsimp only [Pt.U, Pt.locs, Pt.cells, Pt.slots] at X1059 l1059 y1059 z1059 st1059 hQ1059
  subst l1059 y1059 z1059
  obtain ⟨rfl, N1059q, e11⟩ := hQ1059
  have N1059 := Fr.app N1057 N1059q
  obtain ⟨T1060, h1060, X1060, e1060, W1060, st1060⟩ := putF X1059 hx hZ hown (host := "") (Or.inl (hw _ (List.mem_of_getElem? (i := 66) rfl))) Via.refl e11 c1058_2 c1058_0 (Or.inr ⟨(hw _ (List.mem_of_getElem? (i := 67) rfl)), rfl, hnm⟩) (hw _ (List.mem_of_getElem? (i := 53) rfl)) (ty := (.object "java/lang/String")) (by decide) rfl rfl (g := (mkF m 14 #[.val (.ref a1), .val (.int u1), .val (.ref a2), .val .null, .val .null] [(.ref a3), (.ref a1)])) rfl rfl (hb hby d9_14)
  have Fw1060 := c1058_2.same W1060
  have c1061_0 := c1058_0.wr W1060
  have c1061_1 := Fw1057.other W1060 (Or.inr (slot_ne (Or.inr (hw _ (List.mem_of_getElem? (i := 60) rfl))) (Or.inr (hw _ (List.mem_of_getElem? (i := 67) rfl))) (by decide) (t := .int) (t' := (.object "java/lang/String")) (by decide) (by decide)))
  have c1061_3 := c1058_3.other W1060 (Or.inr (slot_ne (Or.inr (hw _ (List.mem_of_getElem? (i := 74) rfl))) (Or.inr (hw _ (List.mem_of_getElem? (i := 67) rfl))) (by decide) (t := .double) (t' := (.object "java/lang/String")) (by decide) (by decide)))
  have c1061_4 := c1058_4.other W1060 (Or.inr (slot_ne (Or.inr (hw _ (List.mem_of_getElem? (i := 81) rfl))) (Or.inr (hw _ (List.mem_of_getElem? (i := 67) rfl))) (by decide) (t := .double) (t' := (.object "java/lang/String")) (by decide) (by decide)))
  have c1061_5 := c1058_5.other W1060 (Or.inr (slot_ne (Or.inr (hw _ (List.mem_of_getElem? (i := 134) rfl))) (Or.inr (hw _ (List.mem_of_getElem? (i := 67) rfl))) (by decide) (t := (.object "com/example/quorumline/quorumline/sim/Server")) (t' := (.object "java/lang/String")) (by decide) (by decide)))
  have c1061_6 := c1058_6.other W1060 (Or.inr (slot_ne (Or.inr (hw _ (List.mem_of_getElem? (i := 136) rfl))) (Or.inr (hw _ (List.mem_of_getElem? (i := 67) rfl))) (by decide) (t := (.object "com/example/quorumline/quorumline/sim/Server")) (t' := (.object "java/lang/String")) (by decide) (by decide)))
  have c1061_7 := c1058_7.wr W1060 g1
  have c1061_8 := c1058_8.wr W1060
  have c1061_9 := c1058_9.other W1060 (Or.inl (ne_exa c1058_8 c1058_0 (by decide)))
  have c1061_10 := c1058_10.other W1060 (Or.inl (ne_exa c1058_8 c1058_0 (by decide)))
  have c1061_11 := c1058_11.other W1060 (Or.inl (ne_exa c1058_8 c1058_0 (by decide)))
  have c1061_12 := c1058_12.other W1060 (Or.inl (ne_exa c1058_8 c1058_0 (by decide)))
  have Z1060 : n0 ≤ h1060.size := Nat.le_trans Z1057 (Nat.le_of_eq W1060.size.symm)
  have K1060 : Keep h0 h1060 [a1] := K1057.wr W1060 (Or.inl (List.mem_of_getElem? (i := 0) rfl))
  have N1060 := Fr.snoc X1060 N1059 g1
  obtain ⟨cq1062, kq1062, q1062a, q1062b, q1062c⟩ := isOf hZ e1060 c1061_8
  obtain ⟨_, _, ⟨T1062, L1062, k1062, n1062⟩, -, X1062, ⟨Lc1062, hQ1062, l1062, y1062, z1062⟩, st1062⟩ := X1060.virtualBack hx (y := (⟨"com/example/quorumline/quorumline/sim/Layout$Group", "cpuSlice", "()D"⟩ : MethodName)) (z := (⟨"com/example/quorumline/quorumline/sim/Layout$Group", "cpuSlice", "()D"⟩ : MethodName)) hown (mvT hZ (hw _ (List.mem_of_getElem? (i := 68) rfl))) (mvT hZ (hw _ (List.mem_of_getElem? (i := 69) rfl))) (notFace_of_selects (args := #[]) (mvT hZ (hw _ (List.mem_of_getElem? (i := 71) rfl)))) (mvT hZ (hw _ (List.mem_of_getElem? (i := 71) rfl))) (mvT hZ (hw _ (List.mem_of_getElem? (i := 70) rfl))) (by decide) (backOf (W := 1) (rm_gcpu l Z a0 hw [] a2 d1 h1060 n0 Z1060 c1061_11) hZ (hw _ (List.mem_of_getElem? (i := 72) rfl)) (hw _ (List.mem_of_getElem? (i := 32) rfl)) (by decide) (by decide)) q1062a q1062c (g := (mkF m 19 #[.val (.ref a1), .val (.int u1), .val (.ref a2), .val .null, .val .null] [(.ref a2), (.ref a1)])) rfl (by rw [hml]; rfl) (Steps.refl _) (argsL := []) (rest := [(.ref a1)]) (lenOf pd_3 rfl) rfl (by show 2 * 0 + _ ≤ _; exact Nat.le_of_eq rfl) (hb hby d9_19) (fun _ _ => ⟨rfl, e1060, (by decide : 0 + 0 ≤ _), (by decide : 0 + 0 ≤ _)⟩)
  dsimp only [Pt.U, Pt.locs, Pt.cells, Pt.slots] at X1062 l1062 y1062 z1062 st1062 hQ1062
  subst l1062 y1062 z1062
  obtain ⟨rfl, N1062q, e19⟩ := hQ1062
  have N1062 := Fr.app N1060 N1062q
  obtain ⟨T1063, h1063, X1063, e1063, W1063, st1063⟩ := putF X1062 hx hZ hown (host := "") (Or.inl (hw _ (List.mem_of_getElem? (i := 73) rfl))) Via.refl e19 c1061_3 c1061_0 (Or.inr ⟨(hw _ (List.mem_of_getElem? (i := 74) rfl)), rfl, hnm⟩) (hw _ (List.mem_of_getElem? (i := 53) rfl)) (ty := .double) (by decide) rfl rfl (g := (mkF m 22 #[.val (.ref a1), .val (.int u1), .val (.ref a2), .val .null, .val .null] [(.double d1), (.ref a1)])) rfl rfl (hb hby d9_22)
  have Fw1063 := c1061_3.same W1063
  have c1064_0 := c1061_0.wr W1063
  have c1064_1 := c1061_1.other W1063 (Or.inr (slot_ne (Or.inr (hw _ (List.mem_of_getElem? (i := 60) rfl))) (Or.inr (hw _ (List.mem_of_getElem? (i := 74) rfl))) (by decide) (t := .int) (t' := .double) (by decide) (by decide)))
  have c1064_2 := Fw1060.other W1063 (Or.inr (slot_ne (Or.inr (hw _ (List.mem_of_getElem? (i := 67) rfl))) (Or.inr (hw _ (List.mem_of_getElem? (i := 74) rfl))) (by decide) (t := (.object "java/lang/String")) (t' := .double) (by decide) (by decide)))
  have c1064_4 := c1061_4.other W1063 (Or.inr (slot_ne (Or.inr (hw _ (List.mem_of_getElem? (i := 81) rfl))) (Or.inr (hw _ (List.mem_of_getElem? (i := 74) rfl))) (by decide) (t := .double) (t' := .double) (by decide) (by decide)))
  have c1064_5 := c1061_5.other W1063 (Or.inr (slot_ne (Or.inr (hw _ (List.mem_of_getElem? (i := 134) rfl))) (Or.inr (hw _ (List.mem_of_getElem? (i := 74) rfl))) (by decide) (t := (.object "com/example/quorumline/quorumline/sim/Server")) (t' := .double) (by decide) (by decide)))
  have c1064_6 := c1061_6.other W1063 (Or.inr (slot_ne (Or.inr (hw _ (List.mem_of_getElem? (i := 136) rfl))) (Or.inr (hw _ (List.mem_of_getElem? (i := 74) rfl))) (by decide) (t := (.object "com/example/quorumline/quorumline/sim/Server")) (t' := .double) (by decide) (by decide)))
  have c1064_7 := c1061_7.wr W1063 g1
  have c1064_8 := c1061_8.wr W1063
  have c1064_9 := c1061_9.other W1063 (Or.inl (ne_exa c1061_8 c1061_0 (by decide)))
  have c1064_10 := c1061_10.other W1063 (Or.inl (ne_exa c1061_8 c1061_0 (by decide)))
  have c1064_11 := c1061_11.other W1063 (Or.inl (ne_exa c1061_8 c1061_0 (by decide)))
  have c1064_12 := c1061_12.other W1063 (Or.inl (ne_exa c1061_8 c1061_0 (by decide)))
  have Z1063 : n0 ≤ h1063.size := Nat.le_trans Z1060 (Nat.le_of_eq W1063.size.symm)
  have K1063 : Keep h0 h1063 [a1] := K1060.wr W1063 (Or.inl (List.mem_of_getElem? (i := 0) rfl))
  have N1063 := Fr.snoc X1063 N1062 g1
  obtain ⟨cq1065, kq1065, q1065a, q1065b, q1065c⟩ := isOf hZ e1063 c1064_8
  obtain ⟨_, _, ⟨T1065, L1065, k1065, n1065⟩, -, X1065, ⟨Lc1065, hQ1065, l1065, y1065, z1065⟩, st1065⟩ := X1063.virtualBack hx (y := (⟨"com/example/quorumline/quorumline/sim/Layout$Group", "messageCpu", "()D"⟩ : MethodName)) (z := (⟨"com/example/quorumline/quorumline/sim/Layout$Group", "messageCpu", "()D"⟩ : MethodName)) hown (mvT hZ (hw _ (List.mem_of_getElem? (i := 75) rfl))) (mvT hZ (hw _ (List.mem_of_getElem? (i := 76) rfl))) (notFace_of_selects (args := #[]) (mvT hZ (hw _ (List.mem_of_getElem? (i := 78) rfl)))) (mvT hZ (hw _ (List.mem_of_getElem? (i := 78) rfl))) (mvT hZ (hw _ (List.mem_of_getElem? (i := 77) rfl))) (by decide) (backOf (W := 1) (rm_gmsg l Z a0 hw [] a2 d2 h1063 n0 Z1063 c1064_12) hZ (hw _ (List.mem_of_getElem? (i := 79) rfl)) (hw _ (List.mem_of_getElem? (i := 32) rfl)) (by decide) (by decide)) q1065a q1065c (g := (mkF m 27 #[.val (.ref a1), .val (.int u1), .val (.ref a2), .val .null, .val .null] [(.ref a2), (.ref a1)])) rfl (by rw [hml]; rfl) (Steps.refl _) (argsL := []) (rest := [(.ref a1)]) (lenOf pd_3 rfl) rfl (by show 2 * 0 + _ ≤ _; exact Nat.le_of_eq rfl) (hb hby d9_27) (fun _ _ => ⟨rfl, e1063, (by decide : 0 + 0 ≤ _), (by decide : 0 + 0 ≤ _)⟩)
  dsimp only [Pt.U, Pt.locs, Pt.cells, Pt.slots] at X1065 l1065 y1065 z1065 st1065 hQ1065
  subst l1065 y1065 z1065
  obtain ⟨rfl, N1065q, e27⟩ := hQ1065
  have N1065 := Fr.app N1063 N1065q
  obtain ⟨T1066, h1066, X1066, e1066, W1066, st1066⟩ := putF X1065 hx hZ hown (host := "") (Or.inl (hw _ (List.mem_of_getElem? (i := 80) rfl))) Via.refl e27 c1064_4 c1064_0 (Or.inr ⟨(hw _ (List.mem_of_getElem? (i := 81) rfl)), rfl, hnm⟩) (hw _ (List.mem_of_getElem? (i := 53) rfl)) (ty := .double) (by decide) rfl rfl (g := (mkF m 30 #[.val (.ref a1), .val (.int u1), .val (.ref a2), .val .null, .val .null] [(.double d2), (.ref a1)])) rfl rfl (hb hby d9_30)
  have Fw1066 := c1064_4.same W1066
  have c1067_0 := c1064_0.wr W1066
  have c1067_1 := c1064_1.other W1066 (Or.inr (slot_ne (Or.inr (hw _ (List.mem_of_getElem? (i := 60) rfl))) (Or.inr (hw _ (List.mem_of_getElem? (i := 81) rfl))) (by decide) (t := .int) (t' := .double) (by decide) (by decide)))
  have c1067_2 := c1064_2.other W1066 (Or.inr (slot_ne (Or.inr (hw _ (List.mem_of_getElem? (i := 67) rfl))) (Or.inr (hw _ (List.mem_of_getElem? (i := 81) rfl))) (by decide) (t := (.object "java/lang/String")) (t' := .double) (by decide) (by decide)))
  have c1067_3 := Fw1063.other W1066 (Or.inr (slot_ne (Or.inr (hw _ (List.mem_of_getElem? (i := 74) rfl))) (Or.inr (hw _ (List.mem_of_getElem? (i := 81) rfl))) (by decide) (t := .double) (t' := .double) (by decide) (by decide)))
  have c1067_5 := c1064_5.other W1066 (Or.inr (slot_ne (Or.inr (hw _ (List.mem_of_getElem? (i := 134) rfl))) (Or.inr (hw _ (List.mem_of_getElem? (i := 81) rfl))) (by decide) (t := (.object "com/example/quorumline/quorumline/sim/Server")) (t' := .double) (by decide) (by decide)))
  have c1067_6 := c1064_6.other W1066 (Or.inr (slot_ne (Or.inr (hw _ (List.mem_of_getElem? (i := 136) rfl))) (Or.inr (hw _ (List.mem_of_getElem? (i := 81) rfl))) (by decide) (t := (.object "com/example/quorumline/quorumline/sim/Server")) (t' := .double) (by decide) (by decide)))
  have c1067_7 := c1064_7.wr W1066 g1
  have c1067_8 := c1064_8.wr W1066
  have c1067_9 := c1064_9.other W1066 (Or.inl (ne_exa c1064_8 c1064_0 (by decide)))
  have c1067_10 := c1064_10.other W1066 (Or.inl (ne_exa c1064_8 c1064_0 (by decide)))
  have c1067_11 := c1064_11.other W1066 (Or.inl (ne_exa c1064_8 c1064_0 (by decide)))
  have c1067_12 := c1064_12.other W1066 (Or.inl (ne_exa c1064_8 c1064_0 (by decide)))
  have Z1066 : n0 ≤ h1066.size := Nat.le_trans Z1063 (Nat.le_of_eq W1066.size.symm)
  have K1066 : Keep h0 h1066 [a1] := K1063.wr W1066 (Or.inl (List.mem_of_getElem? (i := 0) rfl))
  have N1066 := Fr.snoc X1066 N1065 g1
  obtain ⟨cq1068, kq1068, q1068a, q1068b, q1068c⟩ := isOf hZ e1066 c1067_8
  obtain ⟨_, _, ⟨T1068, L1068, k1068, n1068⟩, -, X1068, ⟨Lc1068, hQ1068, l1068, y1068, z1068⟩, st1068⟩ := X1066.virtualBack hx (y := (⟨"com/example/quorumline/quorumline/sim/Layout$Group", "io", "()Z"⟩ : MethodName)) (z := (⟨"com/example/quorumline/quorumline/sim/Layout$Group", "io", "()Z"⟩ : MethodName)) hown (mvT hZ (hw _ (List.mem_of_getElem? (i := 82) rfl))) (mvT hZ (hw _ (List.mem_of_getElem? (i := 83) rfl))) (notFace_of_selects (args := #[]) (mvT hZ (hw _ (List.mem_of_getElem? (i := 85) rfl)))) (mvT hZ (hw _ (List.mem_of_getElem? (i := 85) rfl))) (mvT hZ (hw _ (List.mem_of_getElem? (i := 84) rfl))) (by decide) (backOf (W := 1) (rm_gio l Z a0 hw [] a2 wi h1066 n0 Z1066 c1067_10 hwi) hZ (hw _ (List.mem_of_getElem? (i := 86) rfl)) (hw _ (List.mem_of_getElem? (i := 32) rfl)) (by decide) (by decide)) q1068a q1068c (g := (mkF m 35 #[.val (.ref a1), .val (.int u1), .val (.ref a2), .val .null, .val .null] [(.ref a2), (.ref a1)])) rfl (by rw [hml]; rfl) (Steps.refl _) (argsL := []) (rest := [(.ref a1)]) (lenOf pd_4 rfl) rfl (by show 2 * 0 + _ ≤ _; exact Nat.le_of_eq rfl) (hb hby d9_35) (fun _ _ => ⟨rfl, e1066, (by decide : 0 + 0 ≤ _), (by decide : 0 + 0 ≤ _)⟩)
  dsimp only [Pt.U, Pt.locs, Pt.cells, Pt.slots] at X1068 l1068 y1068 z1068 st1068 hQ1068
  subst l1068 y1068 z1068
  obtain ⟨rfl, N1068q, e35⟩ := hQ1068
  have N1068 := Fr.app N1066 N1068q
  have P1069 : ∀ t, Steps p.tables e below (T1068.setTop (mkF m 38 #[.val (.ref a1), .val (.int u1), .val (.ref a2), .val .null, .val .null] [(.int wi), (.ref a1)])) t → Steps p.tables e below (s₁.setTop (entryFrame m #[(.ref a1), (.int u1), (.ref a2), .null, .null] 5)) t := fun t k => P0 t (by
    refine XS.aloadN X0.here hx rfl (hb hby d9_0) rfl rfl ?_
    show Steps p.tables e below (s₁.setTop (mkF m 1 #[.val (.ref a1), .val (.int u1), .val (.ref a2), .val .null, .val .null] [(.ref a1)])) _
    refine st1056 _ ?_
    show Steps p.tables e below (T1056.setTop (mkF m 4 #[.val (.ref a1), .val (.int u1), .val (.ref a2), .val .null, .val .null] [])) _
    refine XS.aloadN X1056.here hx rfl (hb hby d9_4) rfl rfl ?_
    show Steps p.tables e below (T1056.setTop (mkF m 5 #[.val (.ref a1), .val (.int u1), .val (.ref a2), .val .null, .val .null] [(.ref a1)])) _
    refine XS.iloadN X1056.here hx rfl (hb hby d9_5) rfl ?_
    show Steps p.tables e below (T1056.setTop (mkF m 6 #[.val (.ref a1), .val (.int u1), .val (.ref a2), .val .null, .val .null] [(.int u1), (.ref a1)])) _
    refine st1057 _ ?_
    show Steps p.tables e below (T1057.setTop (mkF m 9 #[.val (.ref a1), .val (.int u1), .val (.ref a2), .val .null, .val .null] [])) _
    refine XS.aloadN X1057.here hx rfl (hb hby d9_9) rfl rfl ?_
    show Steps p.tables e below (T1057.setTop (mkF m 10 #[.val (.ref a1), .val (.int u1), .val (.ref a2), .val .null, .val .null] [(.ref a1)])) _
    refine XS.aloadN X1057.here hx rfl (hb hby d9_10) rfl rfl ?_
    show Steps p.tables e below (T1057.setTop (mkF m 11 #[.val (.ref a1), .val (.int u1), .val (.ref a2), .val .null, .val .null] [(.ref a2), (.ref a1)])) _
    refine st1059.trans ?_
    show Steps p.tables e below (T1059.setTop (mkF m 14 #[.val (.ref a1), .val (.int u1), .val (.ref a2), .val .null, .val .null] [(.ref a3), (.ref a1)])) _
    refine st1060 _ ?_
    show Steps p.tables e below (T1060.setTop (mkF m 17 #[.val (.ref a1), .val (.int u1), .val (.ref a2), .val .null, .val .null] [])) _
    refine XS.aloadN X1060.here hx rfl (hb hby d9_17) rfl rfl ?_
    show Steps p.tables e below (T1060.setTop (mkF m 18 #[.val (.ref a1), .val (.int u1), .val (.ref a2), .val .null, .val .null] [(.ref a1)])) _
    refine XS.aloadN X1060.here hx rfl (hb hby d9_18) rfl rfl ?_
    show Steps p.tables e below (T1060.setTop (mkF m 19 #[.val (.ref a1), .val (.int u1), .val (.ref a2), .val .null, .val .null] [(.ref a2), (.ref a1)])) _
    refine st1062.trans ?_
    show Steps p.tables e below (T1062.setTop (mkF m 22 #[.val (.ref a1), .val (.int u1), .val (.ref a2), .val .null, .val .null] [(.double d1), (.ref a1)])) _
    refine st1063 _ ?_
    show Steps p.tables e below (T1063.setTop (mkF m 25 #[.val (.ref a1), .val (.int u1), .val (.ref a2), .val .null, .val .null] [])) _
    refine XS.aloadN X1063.here hx rfl (hb hby d9_25) rfl rfl ?_
    show Steps p.tables e below (T1063.setTop (mkF m 26 #[.val (.ref a1), .val (.int u1), .val (.ref a2), .val .null, .val .null] [(.ref a1)])) _
    refine XS.aloadN X1063.here hx rfl (hb hby d9_26) rfl rfl ?_
    show Steps p.tables e below (T1063.setTop (mkF m 27 #[.val (.ref a1), .val (.int u1), .val (.ref a2), .val .null, .val .null] [(.ref a2), (.ref a1)])) _
    refine st1065.trans ?_
    show Steps p.tables e below (T1065.setTop (mkF m 30 #[.val (.ref a1), .val (.int u1), .val (.ref a2), .val .null, .val .null] [(.double d2), (.ref a1)])) _
    refine st1066 _ ?_
    show Steps p.tables e below (T1066.setTop (mkF m 33 #[.val (.ref a1), .val (.int u1), .val (.ref a2), .val .null, .val .null] [])) _
    refine XS.aloadN X1066.here hx rfl (hb hby d9_33) rfl rfl ?_
    show Steps p.tables e below (T1066.setTop (mkF m 34 #[.val (.ref a1), .val (.int u1), .val (.ref a2), .val .null, .val .null] [(.ref a1)])) _
    refine XS.aloadN X1066.here hx rfl (hb hby d9_34) rfl rfl ?_
    show Steps p.tables e below (T1066.setTop (mkF m 35 #[.val (.ref a1), .val (.int u1), .val (.ref a2), .val .null, .val .null] [(.ref a2), (.ref a1)])) _
    refine st1068.trans ?_
    show Steps p.tables e below (T1068.setTop (mkF m 38 #[.val (.ref a1), .val (.int u1), .val (.ref a2), .val .null, .val .null] [(.int wi), (.ref a1)])) _
    exact k)
  by_cases h38 : wi = (0 : Int32)
  · obtain ⟨T1070, h1070, X1070, e1070, W1070, st1070⟩ := putF X1068 hx hZ hown (host := "") (Or.inl (hw _ (List.mem_of_getElem? (i := 133) rfl))) Via.refl e35 c1067_5 c1067_0 (Or.inr ⟨(hw _ (List.mem_of_getElem? (i := 134) rfl)), rfl, hnm⟩) (hw _ (List.mem_of_getElem? (i := 53) rfl)) (ty := (.object "com/example/quorumline/quorumline/sim/Server")) (by decide) rfl rfl (g := (mkF m 55 #[.val (.ref a1), .val (.int u1), .val (.ref a2), .val .null, .val .null] [.null, (.ref a1)])) rfl rfl (hb hby d9_55)
    have Fw1070 := c1067_5.same W1070
    have c1071_0 := c1067_0.wr W1070
    have c1071_1 := c1067_1.other W1070 (Or.inr (slot_ne (Or.inr (hw _ (List.mem_of_getElem? (i := 60) rfl))) (Or.inr (hw _ (List.mem_of_getElem? (i := 134) rfl))) (by decide) (t := .int) (t' := (.object "com/example/quorumline/quorumline/sim/Server")) (by decide) (by decide)))
    have c1071_2 := c1067_2.other W1070 (Or.inr (slot_ne (Or.inr (hw _ (List.mem_of_getElem? (i := 67) rfl))) (Or.inr (hw _ (List.mem_of_getElem? (i := 134) rfl))) (by decide) (t := (.object "java/lang/String")) (t' := (.object "com/example/quorumline/quorumline/sim/Server")) (by decide) (by decide)))
    have c1071_3 := c1067_3.other W1070 (Or.inr (slot_ne (Or.inr (hw _ (List.mem_of_getElem? (i := 74) rfl))) (Or.inr (hw _ (List.mem_of_getElem? (i := 134) rfl))) (by decide) (t := .double) (t' := (.object "com/example/quorumline/quorumline/sim/Server")) (by decide) (by decide)))
    have c1071_4 := Fw1066.other W1070 (Or.inr (slot_ne (Or.inr (hw _ (List.mem_of_getElem? (i := 81) rfl))) (Or.inr (hw _ (List.mem_of_getElem? (i := 134) rfl))) (by decide) (t := .double) (t' := (.object "com/example/quorumline/quorumline/sim/Server")) (by decide) (by decide)))
    have c1071_6 := c1067_6.other W1070 (Or.inr (slot_ne (Or.inr (hw _ (List.mem_of_getElem? (i := 136) rfl))) (Or.inr (hw _ (List.mem_of_getElem? (i := 134) rfl))) (by decide) (t := (.object "com/example/quorumline/quorumline/sim/Server")) (t' := (.object "com/example/quorumline/quorumline/sim/Server")) (by decide) (by decide)))
    have c1071_7 := c1067_7.wr W1070 g1
    have c1071_8 := c1067_8.wr W1070
    have c1071_9 := c1067_9.other W1070 (Or.inl (ne_exa c1067_8 c1067_0 (by decide)))
    have c1071_10 := c1067_10.other W1070 (Or.inl (ne_exa c1067_8 c1067_0 (by decide)))
    have c1071_11 := c1067_11.other W1070 (Or.inl (ne_exa c1067_8 c1067_0 (by decide)))
    have c1071_12 := c1067_12.other W1070 (Or.inl (ne_exa c1067_8 c1067_0 (by decide)))
    have Z1070 : n0 ≤ h1070.size := Nat.le_trans Z1066 (Nat.le_of_eq W1070.size.symm)
    have K1070 : Keep h0 h1070 [a1] := K1066.wr W1070 (Or.inl (List.mem_of_getElem? (i := 0) rfl))
    have N1070 := Fr.snoc X1070 N1068 g1
    obtain ⟨T1072, h1072, X1072, e1072, E1072, A1072, D1072, -, st1072⟩ := newO X1070 hx hZ hown (hw _ (List.mem_of_getElem? (i := 87) rfl)) (hw _ (List.mem_of_getElem? (i := 88) rfl)) (hw _ (List.mem_of_getElem? (i := 89) rfl)) e1070 (g := (mkF m 59 #[.val (.ref a1), .val (.int u1), .val (.ref a2), .val .null, .val .null] [(.ref a1)])) rfl (hb hby d9_59) (by decide) (by decide)
    obtain ⟨b1072, g1072⟩ : ∃ z, z = h1070.size := ⟨_, rfl⟩
    rw [← g1072] at A1072 D1072 st1072
    have ne_a1_b1072 : a1 ≠ b1072 := Nat.ne_of_lt (Nat.lt_of_lt_of_le c1071_0.lt (Nat.le_of_eq g1072.symm))
    have ne_a2_b1072 : a2 ≠ b1072 := Nat.ne_of_lt (Nat.lt_of_lt_of_le c1071_8.lt (Nat.le_of_eq g1072.symm))
    have g_b1072 : n0 ≤ b1072 := Nat.le_trans Z1070 (Nat.le_of_eq g1072.symm)
    have sz_b1072 : h0.size ≤ b1072 := Nat.le_trans K1070.1 (Nat.le_of_eq g1072.symm)
    have c1073_0 := c1071_0.ext E1072
    have c1073_1 := c1071_1.ext E1072
    have c1073_2 := c1071_2.ext E1072
    have c1073_3 := c1071_3.ext E1072
    have c1073_4 := c1071_4.ext E1072
    have c1073_5 := Fw1070.ext E1072
    have c1073_6 := c1071_6.ext E1072
    have c1073_7 := c1071_7.ext E1072
    have c1073_8 := c1071_8.ext E1072
    have c1073_9 := c1071_9.ext E1072
    have c1073_10 := c1071_10.ext E1072
    have c1073_11 := c1071_11.ext E1072
    have c1073_12 := c1071_12.ext E1072
    have Z1072 : n0 ≤ h1072.size := Nat.le_trans Z1070 E1072.1
    have K1072 : Keep h0 h1072 [a1] := K1070.ext E1072
    have F1072_queue : Fld Z h1072 b1072 "com/example/quorumline/quorumline/sim/Server" "queue" "Ljava/util/Queue;" .null := D1072 (Or.inr (hw _ (List.mem_of_getElem? (i := 112) rfl))) (ty := (.object "java/util/Queue")) (by decide)
    have F1072_calendar : Fld Z h1072 b1072 "com/example/quorumline/quorumline/sim/Server" "calendar" "Lcom/example/quorumline/quorumline/sim/Calendar;" .null := D1072 (Or.inr (hw _ (List.mem_of_getElem? (i := 114) rfl))) (ty := (.object "com/example/quorumline/quorumline/sim/Calendar")) (by decide)
    have F1072_queues : Fld Z h1072 b1072 "com/example/quorumline/quorumline/sim/Server" "queues" "Lcom/example/quorumline/quorumline/sim/Queues;" .null := D1072 (Or.inr (hw _ (List.mem_of_getElem? (i := 116) rfl))) (ty := (.object "com/example/quorumline/quorumline/sim/Queues")) (by decide)
    have F1072_busy : Fld Z h1072 b1072 "com/example/quorumline/quorumline/sim/Server" "busy" "Lcom/example/quorumline/quorumline/sim/Level;" .null := D1072 (Or.inr (hw _ (List.mem_of_getElem? (i := 132) rfl))) (ty := (.object "com/example/quorumline/quorumline/sim/Level")) (by decide)
    obtain ⟨_, _, ⟨T1074, L1074, k1074, n1074⟩, -, X1074, ⟨Lc1074, hQ1074, l1074, y1074, z1074⟩, st1074⟩ := X1072.specialBack hx (y := (⟨"com/example/quorumline/quorumline/sim/Server", "<init>", "(Lcom/example/quorumline/quorumline/sim/Calendar;Lcom/example/quorumline/quorumline/sim/Queues;)V"⟩ : MethodName)) rfl hown (mvT hZ (hw _ (List.mem_of_getElem? (i := 90) rfl))) (mvT hZ (hw _ (List.mem_of_getElem? (i := 91) rfl))) (mvT hZ (hw _ (List.mem_of_getElem? (i := 92) rfl))) (by decide) (backOf (W := 2) (rm_svi l Z a0 hw [] b1072 ms h1072 n0 Z1072 A1072 F1072_queue F1072_calendar F1072_queues F1072_busy g_b1072 SM c1073_7) hZ (hw _ (List.mem_of_getElem? (i := 92) rfl)) (hw _ (List.mem_of_getElem? (i := 89) rfl)) (by decide) (by decide)) (g := (mkF m 66 #[.val (.ref a1), .val (.int u1), .val (.ref a2), .val .null, .val .null] [.null, .null, (.ref b1072), (.ref b1072), (.ref a1)])) rfl (by rw [hml]; rfl) (Steps.refl _) (a := b1072) (argsL := [.null, .null]) (rest := [(.ref b1072), (.ref a1)]) (lenOf pd_5 rfl) rfl (by show 2 * 0 + _ ≤ _; exact Nat.le_of_eq rfl) (hb hby d9_66) (fun _ _ => ⟨rfl, e1072, (by decide : 1 + 3 ≤ _), (by decide : 5 + 24 ≤ _)⟩)
    dsimp only [Pt.U, Pt.locs, Pt.cells, Pt.slots] at X1074 l1074 y1074 z1074 st1074 hQ1074
    subst l1074 y1074 z1074
    obtain ⟨rfl, N1074q, Ks2⟩ := hQ1074
    have N1074 := Fr.app N1070 N1074q
    have c1075_0 := c1073_0.keep Ks2
    have c1075_1 := c1073_1.keep Ks2 (ninS ne_a1_b1072 nin0)
    have c1075_2 := c1073_2.keep Ks2 (ninS ne_a1_b1072 nin0)
    have c1075_3 := c1073_3.keep Ks2 (ninS ne_a1_b1072 nin0)
    have c1075_4 := c1073_4.keep Ks2 (ninS ne_a1_b1072 nin0)
    have c1075_5 := c1073_5.keep Ks2 (ninS ne_a1_b1072 nin0)
    have c1075_6 := c1073_6.keep Ks2 (ninS ne_a1_b1072 nin0)
    have c1075_7 := c1073_7.keep Ks2 (allS g_b1072 all0)
    have c1075_8 := c1073_8.keep Ks2
    have c1075_9 := c1073_9.keep Ks2 (ninS ne_a2_b1072 nin0)
    have c1075_10 := c1073_10.keep Ks2 (ninS ne_a2_b1072 nin0)
    have c1075_11 := c1073_11.keep Ks2 (ninS ne_a2_b1072 nin0)
    have c1075_12 := c1073_12.keep Ks2 (ninS ne_a2_b1072 nin0)
    have c1075_13 := A1072.keep Ks2
    have Z1074 : n0 ≤ T1074.heap.size := Nat.le_trans Z1072 Ks2.1
    have K1074 : Keep h0 T1074.heap [a1] := K1072.trans Ks2 (allS (Or.inr sz_b1072) all0)
    obtain ⟨T1076, h1076, X1076, e1076, W1076, st1076⟩ := putF X1074 hx hZ hown (host := "") (Or.inl (hw _ (List.mem_of_getElem? (i := 135) rfl))) Via.refl rfl c1075_6 c1075_0 (Or.inr ⟨(hw _ (List.mem_of_getElem? (i := 136) rfl)), rfl, hnm⟩) (hw _ (List.mem_of_getElem? (i := 53) rfl)) (ty := (.object "com/example/quorumline/quorumline/sim/Server")) (by decide) rfl rfl (g := (mkF m 69 #[.val (.ref a1), .val (.int u1), .val (.ref a2), .val .null, .val .null] [(.ref b1072), (.ref a1)])) rfl rfl (hb hby d9_69)
    have Fw1076 := c1075_6.same W1076
    have c1077_0 := c1075_0.wr W1076
    have c1077_1 := c1075_1.other W1076 (Or.inr (slot_ne (Or.inr (hw _ (List.mem_of_getElem? (i := 60) rfl))) (Or.inr (hw _ (List.mem_of_getElem? (i := 136) rfl))) (by decide) (t := .int) (t' := (.object "com/example/quorumline/quorumline/sim/Server")) (by decide) (by decide)))
    have c1077_2 := c1075_2.other W1076 (Or.inr (slot_ne (Or.inr (hw _ (List.mem_of_getElem? (i := 67) rfl))) (Or.inr (hw _ (List.mem_of_getElem? (i := 136) rfl))) (by decide) (t := (.object "java/lang/String")) (t' := (.object "com/example/quorumline/quorumline/sim/Server")) (by decide) (by decide)))
    have c1077_3 := c1075_3.other W1076 (Or.inr (slot_ne (Or.inr (hw _ (List.mem_of_getElem? (i := 74) rfl))) (Or.inr (hw _ (List.mem_of_getElem? (i := 136) rfl))) (by decide) (t := .double) (t' := (.object "com/example/quorumline/quorumline/sim/Server")) (by decide) (by decide)))
    have c1077_4 := c1075_4.other W1076 (Or.inr (slot_ne (Or.inr (hw _ (List.mem_of_getElem? (i := 81) rfl))) (Or.inr (hw _ (List.mem_of_getElem? (i := 136) rfl))) (by decide) (t := .double) (t' := (.object "com/example/quorumline/quorumline/sim/Server")) (by decide) (by decide)))
    have c1077_5 := c1075_5.other W1076 (Or.inr (slot_ne (Or.inr (hw _ (List.mem_of_getElem? (i := 134) rfl))) (Or.inr (hw _ (List.mem_of_getElem? (i := 136) rfl))) (by decide) (t := (.object "com/example/quorumline/quorumline/sim/Server")) (t' := (.object "com/example/quorumline/quorumline/sim/Server")) (by decide) (by decide)))
    have c1077_7 := c1075_7.wr W1076 g1
    have c1077_8 := c1075_8.wr W1076
    have c1077_9 := c1075_9.other W1076 (Or.inl (ne_exa c1075_8 c1075_0 (by decide)))
    have c1077_10 := c1075_10.other W1076 (Or.inl (ne_exa c1075_8 c1075_0 (by decide)))
    have c1077_11 := c1075_11.other W1076 (Or.inl (ne_exa c1075_8 c1075_0 (by decide)))
    have c1077_12 := c1075_12.other W1076 (Or.inl (ne_exa c1075_8 c1075_0 (by decide)))
    have c1077_13 := c1075_13.wr W1076
    have Z1076 : n0 ≤ h1076.size := Nat.le_trans Z1074 (Nat.le_of_eq W1076.size.symm)
    have K1076 : Keep h0 h1076 [a1] := K1074.wr W1076 (Or.inl (List.mem_of_getElem? (i := 0) rfl))
    have N1076 := Fr.snoc X1076 N1074 g1
    have P1078 : ∀ t, Steps p.tables e below (T1076.setTop (mkF m 72 #[.val (.ref a1), .val (.int u1), .val (.ref a2), .val .null, .val .null] [])) t → Steps p.tables e below (s₁.setTop (entryFrame m #[(.ref a1), (.int u1), (.ref a2), .null, .null] 5)) t := fun t k => P1069 t (by
      refine XS.ifYes X1068.here hx rfl (pc0 := 38) (pc' := 54) rfl (hb hby d9_38) rfl ((if0 _ _).trans (teq h38).1) (by decide) (by decide) ?_
      show Steps p.tables e below (T1068.setTop (mkF m 54 #[.val (.ref a1), .val (.int u1), .val (.ref a2), .val .null, .val .null] [(.ref a1)])) _
      refine XS.aconstNull X1068.here hx rfl (hb hby d9_54) ?_
      show Steps p.tables e below (T1068.setTop (mkF m 55 #[.val (.ref a1), .val (.int u1), .val (.ref a2), .val .null, .val .null] [.null, (.ref a1)])) _
      refine st1070 _ ?_
      show Steps p.tables e below (T1070.setTop (mkF m 58 #[.val (.ref a1), .val (.int u1), .val (.ref a2), .val .null, .val .null] [])) _
      refine XS.aloadN X1070.here hx rfl (hb hby d9_58) rfl rfl ?_
      show Steps p.tables e below (T1070.setTop (mkF m 59 #[.val (.ref a1), .val (.int u1), .val (.ref a2), .val .null, .val .null] [(.ref a1)])) _
      refine st1072 _ ?_
      show Steps p.tables e below (T1072.setTop (mkF m 62 #[.val (.ref a1), .val (.int u1), .val (.ref a2), .val .null, .val .null] [(.ref b1072), (.ref a1)])) _
      refine XS.dup X1072.here hx rfl (hb hby d9_62) rfl rfl ?_
      show Steps p.tables e below (T1072.setTop (mkF m 63 #[.val (.ref a1), .val (.int u1), .val (.ref a2), .val .null, .val .null] [(.ref b1072), (.ref b1072), (.ref a1)])) _
      refine XS.aloadN X1072.here hx rfl (hb hby d9_63) rfl rfl ?_
      show Steps p.tables e below (T1072.setTop (mkF m 64 #[.val (.ref a1), .val (.int u1), .val (.ref a2), .val .null, .val .null] [.null, (.ref b1072), (.ref b1072), (.ref a1)])) _
      refine XS.aload X1072.here hx rfl (hb hby d9_64) rfl rfl ?_
      show Steps p.tables e below (T1072.setTop (mkF m 66 #[.val (.ref a1), .val (.int u1), .val (.ref a2), .val .null, .val .null] [.null, .null, (.ref b1072), (.ref b1072), (.ref a1)])) _
      refine st1074.trans ?_
      show Steps p.tables e below (T1074.setTop (mkF m 69 #[.val (.ref a1), .val (.int u1), .val (.ref a2), .val .null, .val .null] [(.ref b1072), (.ref a1)])) _
      refine st1076 _ ?_
      show Steps p.tables e below (T1076.setTop (mkF m 72 #[.val (.ref a1), .val (.int u1), .val (.ref a2), .val .null, .val .null] [])) _
      exact k)
    obtain ⟨fs, hr, hrun, hended, hW, hsame⟩ := X1076.leave (v := none) (fun _ => rfl)
    refine ⟨_, _, P1078 _ ?_, hrun, hended, _, _, rfl, ?_, ⟨_, rfl⟩, hW, hsame.mono (by decide) (by decide)⟩
    · exact X1076.returnOut hx Bd.returns (hb hby d9_72) hr
    · show Q_sii Z a1 u1 a2 a3 wi d1 d2 ms h0 n0 _ T1076.heap _
      rw [e1076]
      exact ⟨_, b1072, rfl, N1076, K1076, c1077_0, c1077_1, c1077_5, Fw1076, Or.inr ⟨h38, rfl⟩⟩
  · obtain ⟨T1079, h1079, X1079, e1079, E1079, A1079, D1079, -, st1079⟩ := newO X1068 hx hZ hown (hw _ (List.mem_of_getElem? (i := 87) rfl)) (hw _ (List.mem_of_getElem? (i := 88) rfl)) (hw _ (List.mem_of_getElem? (i := 89) rfl)) e35 (g := (mkF m 41 #[.val (.ref a1), .val (.int u1), .val (.ref a2), .val .null, .val .null] [(.ref a1)])) rfl (hb hby d9_41) (by decide) (by decide)
    obtain ⟨b1079, g1079⟩ : ∃ z, z = h1066.size := ⟨_, rfl⟩
    rw [← g1079] at A1079 D1079 st1079
    have ne_a1_b1079 : a1 ≠ b1079 := Nat.ne_of_lt (Nat.lt_of_lt_of_le c1067_0.lt (Nat.le_of_eq g1079.symm))
    have ne_a2_b1079 : a2 ≠ b1079 := Nat.ne_of_lt (Nat.lt_of_lt_of_le c1067_8.lt (Nat.le_of_eq g1079.symm))
    have g_b1079 : n0 ≤ b1079 := Nat.le_trans Z1066 (Nat.le_of_eq g1079.symm)
    have sz_b1079 : h0.size ≤ b1079 := Nat.le_trans K1066.1 (Nat.le_of_eq g1079.symm)
    have c1080_0 := c1067_0.ext E1079
    have c1080_1 := c1067_1.ext E1079
    have c1080_2 := c1067_2.ext E1079
    have c1080_3 := c1067_3.ext E1079
    have c1080_4 := Fw1066.ext E1079
    have c1080_5 := c1067_5.ext E1079
    have c1080_6 := c1067_6.ext E1079
    have c1080_7 := c1067_7.ext E1079
    have c1080_8 := c1067_8.ext E1079
    have c1080_9 := c1067_9.ext E1079
    have c1080_10 := c1067_10.ext E1079
    have c1080_11 := c1067_11.ext E1079
    have c1080_12 := c1067_12.ext E1079
    have Z1079 : n0 ≤ h1079.size := Nat.le_trans Z1066 E1079.1
    have K1079 : Keep h0 h1079 [a1] := K1066.ext E1079
    have F1079_queue : Fld Z h1079 b1079 "com/example/quorumline/quorumline/sim/Server" "queue" "Ljava/util/Queue;" .null := D1079 (Or.inr (hw _ (List.mem_of_getElem? (i := 112) rfl))) (ty := (.object "java/util/Queue")) (by decide)
    have F1079_calendar : Fld Z h1079 b1079 "com/example/quorumline/quorumline/sim/Server" "calendar" "Lcom/example/quorumline/quorumline/sim/Calendar;" .null := D1079 (Or.inr (hw _ (List.mem_of_getElem? (i := 114) rfl))) (ty := (.object "com/example/quorumline/quorumline/sim/Calendar")) (by decide)
    have F1079_queues : Fld Z h1079 b1079 "com/example/quorumline/quorumline/sim/Server" "queues" "Lcom/example/quorumline/quorumline/sim/Queues;" .null := D1079 (Or.inr (hw _ (List.mem_of_getElem? (i := 116) rfl))) (ty := (.object "com/example/quorumline/quorumline/sim/Queues")) (by decide)
    have F1079_busy : Fld Z h1079 b1079 "com/example/quorumline/quorumline/sim/Server" "busy" "Lcom/example/quorumline/quorumline/sim/Level;" .null := D1079 (Or.inr (hw _ (List.mem_of_getElem? (i := 132) rfl))) (ty := (.object "com/example/quorumline/quorumline/sim/Level")) (by decide)
    obtain ⟨_, _, ⟨T1081, L1081, k1081, n1081⟩, -, X1081, ⟨Lc1081, hQ1081, l1081, y1081, z1081⟩, st1081⟩ := X1079.specialBack hx (y := (⟨"com/example/quorumline/quorumline/sim/Server", "<init>", "(Lcom/example/quorumline/quorumline/sim/Calendar;Lcom/example/quorumline/quorumline/sim/Queues;)V"⟩ : MethodName)) rfl hown (mvT hZ (hw _ (List.mem_of_getElem? (i := 90) rfl))) (mvT hZ (hw _ (List.mem_of_getElem? (i := 91) rfl))) (mvT hZ (hw _ (List.mem_of_getElem? (i := 92) rfl))) (by decide) (backOf (W := 2) (rm_svi l Z a0 hw [] b1079 ms h1079 n0 Z1079 A1079 F1079_queue F1079_calendar F1079_queues F1079_busy g_b1079 SM c1080_7) hZ (hw _ (List.mem_of_getElem? (i := 92) rfl)) (hw _ (List.mem_of_getElem? (i := 89) rfl)) (by decide) (by decide)) (g := (mkF m 48 #[.val (.ref a1), .val (.int u1), .val (.ref a2), .val .null, .val .null] [.null, .null, (.ref b1079), (.ref b1079), (.ref a1)])) rfl (by rw [hml]; rfl) (Steps.refl _) (a := b1079) (argsL := [.null, .null]) (rest := [(.ref b1079), (.ref a1)]) (lenOf pd_5 rfl) rfl (by show 2 * 0 + _ ≤ _; exact Nat.le_of_eq rfl) (hb hby d9_48) (fun _ _ => ⟨rfl, e1079, (by decide : 1 + 3 ≤ _), (by decide : 5 + 24 ≤ _)⟩)
    dsimp only [Pt.U, Pt.locs, Pt.cells, Pt.slots] at X1081 l1081 y1081 z1081 st1081 hQ1081
    subst l1081 y1081 z1081
    obtain ⟨rfl, N1081q, Ks1⟩ := hQ1081
    have N1081 := Fr.app N1068 N1081q
    have c1082_0 := c1080_0.keep Ks1
    have c1082_1 := c1080_1.keep Ks1 (ninS ne_a1_b1079 nin0)
    have c1082_2 := c1080_2.keep Ks1 (ninS ne_a1_b1079 nin0)
    have c1082_3 := c1080_3.keep Ks1 (ninS ne_a1_b1079 nin0)
    have c1082_4 := c1080_4.keep Ks1 (ninS ne_a1_b1079 nin0)
    have c1082_5 := c1080_5.keep Ks1 (ninS ne_a1_b1079 nin0)
    have c1082_6 := c1080_6.keep Ks1 (ninS ne_a1_b1079 nin0)
    have c1082_7 := c1080_7.keep Ks1 (allS g_b1079 all0)
    have c1082_8 := c1080_8.keep Ks1
    have c1082_9 := c1080_9.keep Ks1 (ninS ne_a2_b1079 nin0)
    have c1082_10 := c1080_10.keep Ks1 (ninS ne_a2_b1079 nin0)
    have c1082_11 := c1080_11.keep Ks1 (ninS ne_a2_b1079 nin0)
    have c1082_12 := c1080_12.keep Ks1 (ninS ne_a2_b1079 nin0)
    have c1082_13 := A1079.keep Ks1
    have Z1081 : n0 ≤ T1081.heap.size := Nat.le_trans Z1079 Ks1.1
    have K1081 : Keep h0 T1081.heap [a1] := K1079.trans Ks1 (allS (Or.inr sz_b1079) all0)
    obtain ⟨T1083, h1083, X1083, e1083, W1083, st1083⟩ := putF X1081 hx hZ hown (host := "") (Or.inl (hw _ (List.mem_of_getElem? (i := 133) rfl))) Via.refl rfl c1082_5 c1082_0 (Or.inr ⟨(hw _ (List.mem_of_getElem? (i := 134) rfl)), rfl, hnm⟩) (hw _ (List.mem_of_getElem? (i := 53) rfl)) (ty := (.object "com/example/quorumline/quorumline/sim/Server")) (by decide) rfl rfl (g := (mkF m 55 #[.val (.ref a1), .val (.int u1), .val (.ref a2), .val .null, .val .null] [(.ref b1079), (.ref a1)])) rfl rfl (hb hby d9_55)
    have Fw1083 := c1082_5.same W1083
    have c1084_0 := c1082_0.wr W1083
    have c1084_1 := c1082_1.other W1083 (Or.inr (slot_ne (Or.inr (hw _ (List.mem_of_getElem? (i := 60) rfl))) (Or.inr (hw _ (List.mem_of_getElem? (i := 134) rfl))) (by decide) (t := .int) (t' := (.object "com/example/quorumline/quorumline/sim/Server")) (by decide) (by decide)))
    have c1084_2 := c1082_2.other W1083 (Or.inr (slot_ne (Or.inr (hw _ (List.mem_of_getElem? (i := 67) rfl))) (Or.inr (hw _ (List.mem_of_getElem? (i := 134) rfl))) (by decide) (t := (.object "java/lang/String")) (t' := (.object "com/example/quorumline/quorumline/sim/Server")) (by decide) (by decide)))
    have c1084_3 := c1082_3.other W1083 (Or.inr (slot_ne (Or.inr (hw _ (List.mem_of_getElem? (i := 74) rfl))) (Or.inr (hw _ (List.mem_of_getElem? (i := 134) rfl))) (by decide) (t := .double) (t' := (.object "com/example/quorumline/quorumline/sim/Server")) (by decide) (by decide)))
    have c1084_4 := c1082_4.other W1083 (Or.inr (slot_ne (Or.inr (hw _ (List.mem_of_getElem? (i := 81) rfl))) (Or.inr (hw _ (List.mem_of_getElem? (i := 134) rfl))) (by decide) (t := .double) (t' := (.object "com/example/quorumline/quorumline/sim/Server")) (by decide) (by decide)))
    have c1084_6 := c1082_6.other W1083 (Or.inr (slot_ne (Or.inr (hw _ (List.mem_of_getElem? (i := 136) rfl))) (Or.inr (hw _ (List.mem_of_getElem? (i := 134) rfl))) (by decide) (t := (.object "com/example/quorumline/quorumline/sim/Server")) (t' := (.object "com/example/quorumline/quorumline/sim/Server")) (by decide) (by decide)))
    have c1084_7 := c1082_7.wr W1083 g1
    have c1084_8 := c1082_8.wr W1083
    have c1084_9 := c1082_9.other W1083 (Or.inl (ne_exa c1082_8 c1082_0 (by decide)))
    have c1084_10 := c1082_10.other W1083 (Or.inl (ne_exa c1082_8 c1082_0 (by decide)))
    have c1084_11 := c1082_11.other W1083 (Or.inl (ne_exa c1082_8 c1082_0 (by decide)))
    have c1084_12 := c1082_12.other W1083 (Or.inl (ne_exa c1082_8 c1082_0 (by decide)))
    have c1084_13 := c1082_13.wr W1083
    have Z1083 : n0 ≤ h1083.size := Nat.le_trans Z1081 (Nat.le_of_eq W1083.size.symm)
    have K1083 : Keep h0 h1083 [a1] := K1081.wr W1083 (Or.inl (List.mem_of_getElem? (i := 0) rfl))
    have N1083 := Fr.snoc X1083 N1081 g1
    obtain ⟨T1085, h1085, X1085, e1085, E1085, A1085, D1085, -, st1085⟩ := newO X1083 hx hZ hown (hw _ (List.mem_of_getElem? (i := 87) rfl)) (hw _ (List.mem_of_getElem? (i := 88) rfl)) (hw _ (List.mem_of_getElem? (i := 89) rfl)) e1083 (g := (mkF m 59 #[.val (.ref a1), .val (.int u1), .val (.ref a2), .val .null, .val .null] [(.ref a1)])) rfl (hb hby d9_59) (by decide) (by decide)
    obtain ⟨b1085, g1085⟩ : ∃ z, z = h1083.size := ⟨_, rfl⟩
    rw [← g1085] at A1085 D1085 st1085
    have ne_a1_b1085 : a1 ≠ b1085 := Nat.ne_of_lt (Nat.lt_of_lt_of_le c1084_0.lt (Nat.le_of_eq g1085.symm))
    have ne_a2_b1085 : a2 ≠ b1085 := Nat.ne_of_lt (Nat.lt_of_lt_of_le c1084_8.lt (Nat.le_of_eq g1085.symm))
    have ne_b1079_b1085 : b1079 ≠ b1085 := Nat.ne_of_lt (Nat.lt_of_lt_of_le c1084_13.lt (Nat.le_of_eq g1085.symm))
    have g_b1085 : n0 ≤ b1085 := Nat.le_trans Z1083 (Nat.le_of_eq g1085.symm)
    have sz_b1085 : h0.size ≤ b1085 := Nat.le_trans K1083.1 (Nat.le_of_eq g1085.symm)
    have c1086_0 := c1084_0.ext E1085
    have c1086_1 := c1084_1.ext E1085
    have c1086_2 := c1084_2.ext E1085
    have c1086_3 := c1084_3.ext E1085
    have c1086_4 := c1084_4.ext E1085
    have c1086_5 := Fw1083.ext E1085
    have c1086_6 := c1084_6.ext E1085
    have c1086_7 := c1084_7.ext E1085
    have c1086_8 := c1084_8.ext E1085
    have c1086_9 := c1084_9.ext E1085
    have c1086_10 := c1084_10.ext E1085
    have c1086_11 := c1084_11.ext E1085
    have c1086_12 := c1084_12.ext E1085
    have c1086_13 := c1084_13.ext E1085
    have Z1085 : n0 ≤ h1085.size := Nat.le_trans Z1083 E1085.1
    have K1085 : Keep h0 h1085 [a1] := K1083.ext E1085
    have F1085_queue : Fld Z h1085 b1085 "com/example/quorumline/quorumline/sim/Server" "queue" "Ljava/util/Queue;" .null := D1085 (Or.inr (hw _ (List.mem_of_getElem? (i := 112) rfl))) (ty := (.object "java/util/Queue")) (by decide)
    have F1085_calendar : Fld Z h1085 b1085 "com/example/quorumline/quorumline/sim/Server" "calendar" "Lcom/example/quorumline/quorumline/sim/Calendar;" .null := D1085 (Or.inr (hw _ (List.mem_of_getElem? (i := 114) rfl))) (ty := (.object "com/example/quorumline/quorumline/sim/Calendar")) (by decide)
    have F1085_queues : Fld Z h1085 b1085 "com/example/quorumline/quorumline/sim/Server" "queues" "Lcom/example/quorumline/quorumline/sim/Queues;" .null := D1085 (Or.inr (hw _ (List.mem_of_getElem? (i := 116) rfl))) (ty := (.object "com/example/quorumline/quorumline/sim/Queues")) (by decide)
    have F1085_busy : Fld Z h1085 b1085 "com/example/quorumline/quorumline/sim/Server" "busy" "Lcom/example/quorumline/quorumline/sim/Level;" .null := D1085 (Or.inr (hw _ (List.mem_of_getElem? (i := 132) rfl))) (ty := (.object "com/example/quorumline/quorumline/sim/Level")) (by decide)
    obtain ⟨_, _, ⟨T1087, L1087, k1087, n1087⟩, -, X1087, ⟨Lc1087, hQ1087, l1087, y1087, z1087⟩, st1087⟩ := X1085.specialBack hx (y := (⟨"com/example/quorumline/quorumline/sim/Server", "<init>", "(Lcom/example/quorumline/quorumline/sim/Calendar;Lcom/example/quorumline/quorumline/sim/Queues;)V"⟩ : MethodName)) rfl hown (mvT hZ (hw _ (List.mem_of_getElem? (i := 90) rfl))) (mvT hZ (hw _ (List.mem_of_getElem? (i := 91) rfl))) (mvT hZ (hw _ (List.mem_of_getElem? (i := 92) rfl))) (by decide) (backOf (W := 2) (rm_svi l Z a0 hw [] b1085 ms h1085 n0 Z1085 A1085 F1085_queue F1085_calendar F1085_queues F1085_busy g_b1085 SM c1086_7) hZ (hw _ (List.mem_of_getElem? (i := 92) rfl)) (hw _ (List.mem_of_getElem? (i := 89) rfl)) (by decide) (by decide)) (g := (mkF m 66 #[.val (.ref a1), .val (.int u1), .val (.ref a2), .val .null, .val .null] [.null, .null, (.ref b1085), (.ref b1085), (.ref a1)])) rfl (by rw [hml]; rfl) (Steps.refl _) (a := b1085) (argsL := [.null, .null]) (rest := [(.ref b1085), (.ref a1)]) (lenOf pd_5 rfl) rfl (by show 2 * 0 + _ ≤ _; exact Nat.le_of_eq rfl) (hb hby d9_66) (fun _ _ => ⟨rfl, e1085, (by decide : 5 + 3 ≤ _), (by decide : 34 + 24 ≤ _)⟩)
    dsimp only [Pt.U, Pt.locs, Pt.cells, Pt.slots] at X1087 l1087 y1087 z1087 st1087 hQ1087
    subst l1087 y1087 z1087
    obtain ⟨rfl, N1087q, Ks2⟩ := hQ1087
    have N1087 := Fr.app N1083 N1087q
    have c1088_0 := c1086_0.keep Ks2
    have c1088_1 := c1086_1.keep Ks2 (ninS ne_a1_b1085 nin0)
    have c1088_2 := c1086_2.keep Ks2 (ninS ne_a1_b1085 nin0)
    have c1088_3 := c1086_3.keep Ks2 (ninS ne_a1_b1085 nin0)
    have c1088_4 := c1086_4.keep Ks2 (ninS ne_a1_b1085 nin0)
    have c1088_5 := c1086_5.keep Ks2 (ninS ne_a1_b1085 nin0)
    have c1088_6 := c1086_6.keep Ks2 (ninS ne_a1_b1085 nin0)
    have c1088_7 := c1086_7.keep Ks2 (allS g_b1085 all0)
    have c1088_8 := c1086_8.keep Ks2
    have c1088_9 := c1086_9.keep Ks2 (ninS ne_a2_b1085 nin0)
    have c1088_10 := c1086_10.keep Ks2 (ninS ne_a2_b1085 nin0)
    have c1088_11 := c1086_11.keep Ks2 (ninS ne_a2_b1085 nin0)
    have c1088_12 := c1086_12.keep Ks2 (ninS ne_a2_b1085 nin0)
    have c1088_13 := c1086_13.keep Ks2
    have c1088_14 := A1085.keep Ks2
    have Z1087 : n0 ≤ T1087.heap.size := Nat.le_trans Z1085 Ks2.1
    have K1087 : Keep h0 T1087.heap [a1] := K1085.trans Ks2 (allS (Or.inr sz_b1085) all0)
    obtain ⟨T1089, h1089, X1089, e1089, W1089, st1089⟩ := putF X1087 hx hZ hown (host := "") (Or.inl (hw _ (List.mem_of_getElem? (i := 135) rfl))) Via.refl rfl c1088_6 c1088_0 (Or.inr ⟨(hw _ (List.mem_of_getElem? (i := 136) rfl)), rfl, hnm⟩) (hw _ (List.mem_of_getElem? (i := 53) rfl)) (ty := (.object "com/example/quorumline/quorumline/sim/Server")) (by decide) rfl rfl (g := (mkF m 69 #[.val (.ref a1), .val (.int u1), .val (.ref a2), .val .null, .val .null] [(.ref b1085), (.ref a1)])) rfl rfl (hb hby d9_69)
    have Fw1089 := c1088_6.same W1089
    have c1090_0 := c1088_0.wr W1089
    have c1090_1 := c1088_1.other W1089 (Or.inr (slot_ne (Or.inr (hw _ (List.mem_of_getElem? (i := 60) rfl))) (Or.inr (hw _ (List.mem_of_getElem? (i := 136) rfl))) (by decide) (t := .int) (t' := (.object "com/example/quorumline/quorumline/sim/Server")) (by decide) (by decide)))
    have c1090_2 := c1088_2.other W1089 (Or.inr (slot_ne (Or.inr (hw _ (List.mem_of_getElem? (i := 67) rfl))) (Or.inr (hw _ (List.mem_of_getElem? (i := 136) rfl))) (by decide) (t := (.object "java/lang/String")) (t' := (.object "com/example/quorumline/quorumline/sim/Server")) (by decide) (by decide)))
    have c1090_3 := c1088_3.other W1089 (Or.inr (slot_ne (Or.inr (hw _ (List.mem_of_getElem? (i := 74) rfl))) (Or.inr (hw _ (List.mem_of_getElem? (i := 136) rfl))) (by decide) (t := .double) (t' := (.object "com/example/quorumline/quorumline/sim/Server")) (by decide) (by decide)))
    have c1090_4 := c1088_4.other W1089 (Or.inr (slot_ne (Or.inr (hw _ (List.mem_of_getElem? (i := 81) rfl))) (Or.inr (hw _ (List.mem_of_getElem? (i := 136) rfl))) (by decide) (t := .double) (t' := (.object "com/example/quorumline/quorumline/sim/Server")) (by decide) (by decide)))
    have c1090_5 := c1088_5.other W1089 (Or.inr (slot_ne (Or.inr (hw _ (List.mem_of_getElem? (i := 134) rfl))) (Or.inr (hw _ (List.mem_of_getElem? (i := 136) rfl))) (by decide) (t := (.object "com/example/quorumline/quorumline/sim/Server")) (t' := (.object "com/example/quorumline/quorumline/sim/Server")) (by decide) (by decide)))
    have c1090_7 := c1088_7.wr W1089 g1
    have c1090_8 := c1088_8.wr W1089
    have c1090_9 := c1088_9.other W1089 (Or.inl (ne_exa c1088_8 c1088_0 (by decide)))
    have c1090_10 := c1088_10.other W1089 (Or.inl (ne_exa c1088_8 c1088_0 (by decide)))
    have c1090_11 := c1088_11.other W1089 (Or.inl (ne_exa c1088_8 c1088_0 (by decide)))
    have c1090_12 := c1088_12.other W1089 (Or.inl (ne_exa c1088_8 c1088_0 (by decide)))
    have c1090_13 := c1088_13.wr W1089
    have c1090_14 := c1088_14.wr W1089
    have Z1089 : n0 ≤ h1089.size := Nat.le_trans Z1087 (Nat.le_of_eq W1089.size.symm)
    have K1089 : Keep h0 h1089 [a1] := K1087.wr W1089 (Or.inl (List.mem_of_getElem? (i := 0) rfl))
    have N1089 := Fr.snoc X1089 N1087 g1
    have P1091 : ∀ t, Steps p.tables e below (T1089.setTop (mkF m 72 #[.val (.ref a1), .val (.int u1), .val (.ref a2), .val .null, .val .null] [])) t → Steps p.tables e below (s₁.setTop (entryFrame m #[(.ref a1), (.int u1), (.ref a2), .null, .null] 5)) t := fun t k => P1069 t (by
      refine XS.ifNo X1068.here hx rfl (hb hby d9_38) rfl ((if0 _ _).trans (feq h38).1) ?_
      show Steps p.tables e below (T1068.setTop (mkF m 41 #[.val (.ref a1), .val (.int u1), .val (.ref a2), .val .null, .val .null] [(.ref a1)])) _
      refine st1079 _ ?_
      show Steps p.tables e below (T1079.setTop (mkF m 44 #[.val (.ref a1), .val (.int u1), .val (.ref a2), .val .null, .val .null] [(.ref b1079), (.ref a1)])) _
      refine XS.dup X1079.here hx rfl (hb hby d9_44) rfl rfl ?_
      show Steps p.tables e below (T1079.setTop (mkF m 45 #[.val (.ref a1), .val (.int u1), .val (.ref a2), .val .null, .val .null] [(.ref b1079), (.ref b1079), (.ref a1)])) _
      refine XS.aloadN X1079.here hx rfl (hb hby d9_45) rfl rfl ?_
      show Steps p.tables e below (T1079.setTop (mkF m 46 #[.val (.ref a1), .val (.int u1), .val (.ref a2), .val .null, .val .null] [.null, (.ref b1079), (.ref b1079), (.ref a1)])) _
      refine XS.aload X1079.here hx rfl (hb hby d9_46) rfl rfl ?_
      show Steps p.tables e below (T1079.setTop (mkF m 48 #[.val (.ref a1), .val (.int u1), .val (.ref a2), .val .null, .val .null] [.null, .null, (.ref b1079), (.ref b1079), (.ref a1)])) _
      refine st1081.trans ?_
      show Steps p.tables e below (T1081.setTop (mkF m 51 #[.val (.ref a1), .val (.int u1), .val (.ref a2), .val .null, .val .null] [(.ref b1079), (.ref a1)])) _
      refine XS.goto X1081.here hx rfl (pc0 := 51) (pc' := 55) rfl (hb hby d9_51) (by decide) (by decide) ?_
      show Steps p.tables e below (T1081.setTop (mkF m 55 #[.val (.ref a1), .val (.int u1), .val (.ref a2), .val .null, .val .null] [(.ref b1079), (.ref a1)])) _
      refine st1083 _ ?_
      show Steps p.tables e below (T1083.setTop (mkF m 58 #[.val (.ref a1), .val (.int u1), .val (.ref a2), .val .null, .val .null] [])) _
      refine XS.aloadN X1083.here hx rfl (hb hby d9_58) rfl rfl ?_
      show Steps p.tables e below (T1083.setTop (mkF m 59 #[.val (.ref a1), .val (.int u1), .val (.ref a2), .val .null, .val .null] [(.ref a1)])) _
      refine st1085 _ ?_
      show Steps p.tables e below (T1085.setTop (mkF m 62 #[.val (.ref a1), .val (.int u1), .val (.ref a2), .val .null, .val .null] [(.ref b1085), (.ref a1)])) _
      refine XS.dup X1085.here hx rfl (hb hby d9_62) rfl rfl ?_
      show Steps p.tables e below (T1085.setTop (mkF m 63 #[.val (.ref a1), .val (.int u1), .val (.ref a2), .val .null, .val .null] [(.ref b1085), (.ref b1085), (.ref a1)])) _
      refine XS.aloadN X1085.here hx rfl (hb hby d9_63) rfl rfl ?_
      show Steps p.tables e below (T1085.setTop (mkF m 64 #[.val (.ref a1), .val (.int u1), .val (.ref a2), .val .null, .val .null] [.null, (.ref b1085), (.ref b1085), (.ref a1)])) _
      refine XS.aload X1085.here hx rfl (hb hby d9_64) rfl rfl ?_
      show Steps p.tables e below (T1085.setTop (mkF m 66 #[.val (.ref a1), .val (.int u1), .val (.ref a2), .val .null, .val .null] [.null, .null, (.ref b1085), (.ref b1085), (.ref a1)])) _
      refine st1087.trans ?_
      show Steps p.tables e below (T1087.setTop (mkF m 69 #[.val (.ref a1), .val (.int u1), .val (.ref a2), .val .null, .val .null] [(.ref b1085), (.ref a1)])) _
      refine st1089 _ ?_
      show Steps p.tables e below (T1089.setTop (mkF m 72 #[.val (.ref a1), .val (.int u1), .val (.ref a2), .val .null, .val .null] [])) _
      exact k)
    obtain ⟨fs, hr, hrun, hended, hW, hsame⟩ := X1089.leave (v := none) (fun _ => rfl)
    refine ⟨_, _, P1091 _ ?_, hrun, hended, _, _, rfl, ?_, ⟨_, rfl⟩, hW, hsame.mono (by decide) (by decide)⟩
    · exact X1089.returnOut hx Bd.returns (hb hby d9_72) hr
    · show Q_sii Z a1 u1 a2 a3 wi d1 d2 ms h0 n0 _ T1089.heap _
      rw [e1089]
      exact ⟨_, b1085, rfl, N1089, K1089, c1090_0, c1090_1, c1090_5, Fw1089, Or.inl ⟨own_one hwi h38, b1079, rfl⟩⟩
theorem ef_has1 (m : MethodId) (x0 : Addr) : entryFrame m #[(.ref x0)] 1 = mkF m 0 #[.val (.ref x0)] [] := by first | (simp [entryFrame, mkF, argsToLocals, Value.category]; done) | rfl
def Q_has1 (Z : State) (a1 : Addr) (u1 : Addr) (h0 : Heap) (n0 : Nat) (v : Option Value) (h : Heap) (L : List Loc) : Prop := v = some (.int (1 : Int32)) ∧ Fr n0 L ∧ h = h0
theorem d18_0 : decode prog_94_method_8_code 0 = .ok (.aload_n 0, 1) := by decide +kernel
theorem d18_1 : decode prog_94_method_8_code 1 = .ok (.getfield 43, 3) := by decide +kernel
theorem d18_4 : decode prog_94_method_8_code 4 = .ok (.ifnull 7, 3) := by decide +kernel
theorem d18_7 : decode prog_94_method_8_code 7 = .ok (.iconst 1, 1) := by decide +kernel
theorem d18_8 : decode prog_94_method_8_code 8 = .ok (.goto 4, 3) := by decide +kernel
theorem d18_12 : decode prog_94_method_8_code 12 = .ok (.ireturn, 1) := by decide +kernel
set_option maxRecDepth 65536 in
set_option maxHeartbeats 40000000 in
theorem rm_has1 (l : Launch) (Z : State) (a0 : Array Value) (hw : ∀ d ∈ tables_1, d.before a0 Z = true) (ws : List Jvm.Cond) (a1 : Addr) (u1 : Addr) (h0 : Heap) (n0 : Nat) (Z0 : n0 ≤ h0.size) (F1 : Fld Z h0 a1 "com/example/quorumline/quorumline/sim/Site" "io" "Lcom/example/quorumline/quorumline/sim/Server;" (.ref u1)) :
    MetFree l (⟨"com/example/quorumline/quorumline/sim/Site", "hasIo", "()Z"⟩ : MethodName) (head1 (Jvm.Cond.code (⟨"com/example/quorumline/quorumline/sim/Site", "hasIo", "()Z"⟩ : MethodName) prog_94_method_8_code 1 (some .boolean) :: ws) ({ frames := 0, cells := 0, slots := 0, locals := 0 } : Room)) (fun a U => a = #[(.ref a1)] ∧ Z.Warmed39 U.vm ∧ U.heap = h0) (fun _ _ _ _ _ => True) (fun _ U o U' => ∃ v L, o = .returned v ∧ Q_has1 Z a1 u1 h0 n0 v U'.heap L ∧ FrameEnd U o U' L ({ frames := 0, cells := 0, slots := 0, locals := 0 } : Room).cells ({ frames := 0, cells := 0, slots := 0, locals := 0 } : Room).slots) := by
  refine MetFree.of_bodySF (plainFor_of_name pn_6) hisR ?_
  intro p e s m args below meth c s₁ Bd hml0 hP hK
  obtain ⟨rfl, hZ, hh⟩ := hP
  have hx := Bd.exec
  have hby := Bd.bytes
  have hml : c.maxLocals = 1 := hml0
  have hown : s.vm.findClass "com/example/quorumline/quorumline/sim/Site" = some m.cls := findClass_of_methodNamed Bd.named
  have hnm := (name_of_methodNamed Bd.named Bd.method).1
  have X0 : Stand p l e ({ frames := 0, cells := 0, slots := 0, locals := 0 } : Room) s m #[(.ref a1)] below meth c s₁ [] 0 0 := Stand.of_body Bd
  have e0 : s₁.heap = h0 := by rw [← hh, Bd.state]; rfl
  have N0 := Fr.nil n0
  have K0 : Keep h0 h0 [] := Keep.refl h0 []
  have P0 : ∀ t, Steps p.tables e below (s₁.setTop (mkF m 0 #[.val (.ref a1)] [])) t → Steps p.tables e below (s₁.setTop (entryFrame m #[(.ref a1)] 1)) t := fun t k => castTop (ef_has1 m a1) k
  obtain ⟨T1092, X1092, e1092, st1092⟩ := getF X0 hx hZ hown (host := "") (Or.inl (hw _ (List.mem_of_getElem? (i := 133) rfl))) Via.refl e0 F1 (g := (mkF m 1 #[.val (.ref a1)] [(.ref a1)])) rfl rfl (hb hby d18_1)
  have P1093 : ∀ t, Steps p.tables e below (T1092.setTop (mkF m 12 #[.val (.ref a1)] [(.int (1 : Int32))])) t → Steps p.tables e below (s₁.setTop (entryFrame m #[(.ref a1)] 1)) t := fun t k => P0 t (by
    refine XS.aloadN X0.here hx rfl (hb hby d18_0) rfl rfl ?_
    show Steps p.tables e below (s₁.setTop (mkF m 1 #[.val (.ref a1)] [(.ref a1)])) _
    refine st1092 _ ?_
    show Steps p.tables e below (T1092.setTop (mkF m 4 #[.val (.ref a1)] [(.ref u1)])) _
    refine XS.ifnullNo X1092.here hx rfl (hb hby d18_4) rfl ?_
    show Steps p.tables e below (T1092.setTop (mkF m 7 #[.val (.ref a1)] [])) _
    refine XS.iconst X1092.here hx rfl (hb hby d18_7) ?_
    show Steps p.tables e below (T1092.setTop (mkF m 8 #[.val (.ref a1)] [(.int (1 : Int32))])) _
    refine XS.goto X1092.here hx rfl (pc0 := 8) (pc' := 12) rfl (hb hby d18_8) (by decide) (by decide) ?_
    show Steps p.tables e below (T1092.setTop (mkF m 12 #[.val (.ref a1)] [(.int (1 : Int32))])) _
    exact k)
  obtain ⟨fs, hr, hrun, hended, hW, hsame⟩ := X1092.leave (v := some (.int (1 : Int32))) (fun h => by rw [Bd.returns] at h; cases h)
  refine ⟨_, _, P1093 _ ?_, hrun, hended, _, _, rfl, ?_, ⟨_, rfl⟩, hW, hsame.mono (by decide) (by decide)⟩
  · exact retN X1092 hx (t := .boolean) Bd.returns (by simp) (hb hby d18_12) hr
  · show Q_has1 Z a1 u1 h0 n0 _ T1092.heap _
    rw [e1092]
    exact ⟨rfl, N0, rfl⟩
theorem ef_has0 (m : MethodId) (x0 : Addr) : entryFrame m #[(.ref x0)] 1 = mkF m 0 #[.val (.ref x0)] [] := by first | (simp [entryFrame, mkF, argsToLocals, Value.category]; done) | rfl
def Q_has0 (Z : State) (a1 : Addr) (h0 : Heap) (n0 : Nat) (v : Option Value) (h : Heap) (L : List Loc) : Prop := v = some (.int (0 : Int32)) ∧ Fr n0 L ∧ h = h0
theorem d18_11 : decode prog_94_method_8_code 11 = .ok (.iconst 0, 1) := by decide +kernel
set_option maxRecDepth 65536 in
set_option maxHeartbeats 40000000 in
theorem rm_has0 (l : Launch) (Z : State) (a0 : Array Value) (hw : ∀ d ∈ tables_1, d.before a0 Z = true) (ws : List Jvm.Cond) (a1 : Addr) (h0 : Heap) (n0 : Nat) (Z0 : n0 ≤ h0.size) (F1 : Fld Z h0 a1 "com/example/quorumline/quorumline/sim/Site" "io" "Lcom/example/quorumline/quorumline/sim/Server;" .null) :
    MetFree l (⟨"com/example/quorumline/quorumline/sim/Site", "hasIo", "()Z"⟩ : MethodName) (head1 (Jvm.Cond.code (⟨"com/example/quorumline/quorumline/sim/Site", "hasIo", "()Z"⟩ : MethodName) prog_94_method_8_code 1 (some .boolean) :: ws) ({ frames := 0, cells := 0, slots := 0, locals := 0 } : Room)) (fun a U => a = #[(.ref a1)] ∧ Z.Warmed39 U.vm ∧ U.heap = h0) (fun _ _ _ _ _ => True) (fun _ U o U' => ∃ v L, o = .returned v ∧ Q_has0 Z a1 h0 n0 v U'.heap L ∧ FrameEnd U o U' L ({ frames := 0, cells := 0, slots := 0, locals := 0 } : Room).cells ({ frames := 0, cells := 0, slots := 0, locals := 0 } : Room).slots) := by
  refine MetFree.of_bodySF (plainFor_of_name pn_6) hisR ?_
  intro p e s m args below meth c s₁ Bd hml0 hP hK
  obtain ⟨rfl, hZ, hh⟩ := hP
  have hx := Bd.exec
  have hby := Bd.bytes
  have hml : c.maxLocals = 1 := hml0
  have hown : s.vm.findClass "com/example/quorumline/quorumline/sim/Site" = some m.cls := findClass_of_methodNamed Bd.named
  have hnm := (name_of_methodNamed Bd.named Bd.method).1
  have X0 : Stand p l e ({ frames := 0, cells := 0, slots := 0, locals := 0 } : Room) s m #[(.ref a1)] below meth c s₁ [] 0 0 := Stand.of_body Bd
  have e0 : s₁.heap = h0 := by rw [← hh, Bd.state]; rfl
  have N0 := Fr.nil n0
  have K0 : Keep h0 h0 [] := Keep.refl h0 []
  have P0 : ∀ t, Steps p.tables e below (s₁.setTop (mkF m 0 #[.val (.ref a1)] [])) t → Steps p.tables e below (s₁.setTop (entryFrame m #[(.ref a1)] 1)) t := fun t k => castTop (ef_has0 m a1) k
  obtain ⟨T1094, X1094, e1094, st1094⟩ := getF X0 hx hZ hown (host := "") (Or.inl (hw _ (List.mem_of_getElem? (i := 133) rfl))) Via.refl e0 F1 (g := (mkF m 1 #[.val (.ref a1)] [(.ref a1)])) rfl rfl (hb hby d18_1)
  have P1095 : ∀ t, Steps p.tables e below (T1094.setTop (mkF m 12 #[.val (.ref a1)] [(.int (0 : Int32))])) t → Steps p.tables e below (s₁.setTop (entryFrame m #[(.ref a1)] 1)) t := fun t k => P0 t (by
    refine XS.aloadN X0.here hx rfl (hb hby d18_0) rfl rfl ?_
    show Steps p.tables e below (s₁.setTop (mkF m 1 #[.val (.ref a1)] [(.ref a1)])) _
    refine st1094 _ ?_
    show Steps p.tables e below (T1094.setTop (mkF m 4 #[.val (.ref a1)] [.null])) _
    refine XS.ifnullYes X1094.here hx rfl (pc0 := 4) (pc' := 11) rfl (hb hby d18_4) rfl (by decide) (by decide) ?_
    show Steps p.tables e below (T1094.setTop (mkF m 11 #[.val (.ref a1)] [])) _
    refine XS.iconst X1094.here hx rfl (hb hby d18_11) ?_
    show Steps p.tables e below (T1094.setTop (mkF m 12 #[.val (.ref a1)] [(.int (0 : Int32))])) _
    exact k)
  obtain ⟨fs, hr, hrun, hended, hW, hsame⟩ := X1094.leave (v := some (.int (0 : Int32))) (fun h => by rw [Bd.returns] at h; cases h)
  refine ⟨_, _, P1095 _ ?_, hrun, hended, _, _, rfl, ?_, ⟨_, rfl⟩, hW, hsame.mono (by decide) (by decide)⟩
  · exact retN X1094 hx (t := .boolean) Bd.returns (by simp) (hb hby d18_12) hr
  · show Q_has0 Z a1 h0 n0 _ T1094.heap _
    rw [e1094]
    exact ⟨rfl, N0, rfl⟩
theorem ef_io1 (m : MethodId) (x0 : Addr) : entryFrame m #[(.ref x0)] 1 = mkF m 0 #[.val (.ref x0)] [] := by first | (simp [entryFrame, mkF, argsToLocals, Value.category]; done) | rfl
def Q_io1 (Z : State) (a1 : Addr) (u1 : Addr) (h0 : Heap) (n0 : Nat) (v : Option Value) (h : Heap) (L : List Loc) : Prop := v = some (.ref u1) ∧ Fr n0 L ∧ h = h0
theorem d19_0 : decode prog_94_method_9_code 0 = .ok (.aload_n 0, 1) := by decide +kernel
theorem d19_1 : decode prog_94_method_9_code 1 = .ok (.getfield 43, 3) := by decide +kernel
theorem d19_4 : decode prog_94_method_9_code 4 = .ok (.areturn, 1) := by decide +kernel
set_option maxRecDepth 65536 in
set_option maxHeartbeats 40000000 in
theorem rm_io1 (l : Launch) (Z : State) (a0 : Array Value) (hw : ∀ d ∈ tables_1, d.before a0 Z = true) (ws : List Jvm.Cond) (a1 : Addr) (u1 : Addr) (h0 : Heap) (n0 : Nat) (Z0 : n0 ≤ h0.size) (F1 : Fld Z h0 a1 "com/example/quorumline/quorumline/sim/Site" "io" "Lcom/example/quorumline/quorumline/sim/Server;" (.ref u1)) :
    MetFree l (⟨"com/example/quorumline/quorumline/sim/Site", "io", "()Lcom/example/quorumline/quorumline/sim/Server;"⟩ : MethodName) (head1 (Jvm.Cond.code (⟨"com/example/quorumline/quorumline/sim/Site", "io", "()Lcom/example/quorumline/quorumline/sim/Server;"⟩ : MethodName) prog_94_method_9_code 1 (some (.object "com/example/quorumline/quorumline/sim/Server")) :: ws) ({ frames := 0, cells := 0, slots := 0, locals := 0 } : Room)) (fun a U => a = #[(.ref a1)] ∧ Z.Warmed39 U.vm ∧ U.heap = h0) (fun _ _ _ _ _ => True) (fun _ U o U' => ∃ v L, o = .returned v ∧ Q_io1 Z a1 u1 h0 n0 v U'.heap L ∧ FrameEnd U o U' L ({ frames := 0, cells := 0, slots := 0, locals := 0 } : Room).cells ({ frames := 0, cells := 0, slots := 0, locals := 0 } : Room).slots) := by
  refine MetFree.of_bodySF (plainFor_of_name pn_6) hisR ?_
  intro p e s m args below meth c s₁ Bd hml0 hP hK
  obtain ⟨rfl, hZ, hh⟩ := hP
  have hx := Bd.exec
  have hby := Bd.bytes
  have hml : c.maxLocals = 1 := hml0
  have hown : s.vm.findClass "com/example/quorumline/quorumline/sim/Site" = some m.cls := findClass_of_methodNamed Bd.named
  have hnm := (name_of_methodNamed Bd.named Bd.method).1
  have X0 : Stand p l e ({ frames := 0, cells := 0, slots := 0, locals := 0 } : Room) s m #[(.ref a1)] below meth c s₁ [] 0 0 := Stand.of_body Bd
  have e0 : s₁.heap = h0 := by rw [← hh, Bd.state]; rfl
  have N0 := Fr.nil n0
  have K0 : Keep h0 h0 [] := Keep.refl h0 []
  have P0 : ∀ t, Steps p.tables e below (s₁.setTop (mkF m 0 #[.val (.ref a1)] [])) t → Steps p.tables e below (s₁.setTop (entryFrame m #[(.ref a1)] 1)) t := fun t k => castTop (ef_io1 m a1) k
  obtain ⟨T1096, X1096, e1096, st1096⟩ := getF X0 hx hZ hown (host := "") (Or.inl (hw _ (List.mem_of_getElem? (i := 133) rfl))) Via.refl e0 F1 (g := (mkF m 1 #[.val (.ref a1)] [(.ref a1)])) rfl rfl (hb hby d19_1)
  have P1097 : ∀ t, Steps p.tables e below (T1096.setTop (mkF m 4 #[.val (.ref a1)] [(.ref u1)])) t → Steps p.tables e below (s₁.setTop (entryFrame m #[(.ref a1)] 1)) t := fun t k => P0 t (by
    refine XS.aloadN X0.here hx rfl (hb hby d19_0) rfl rfl ?_
    show Steps p.tables e below (s₁.setTop (mkF m 1 #[.val (.ref a1)] [(.ref a1)])) _
    refine st1096 _ ?_
    show Steps p.tables e below (T1096.setTop (mkF m 4 #[.val (.ref a1)] [(.ref u1)])) _
    exact k)
  obtain ⟨fs, hr, hrun, hended, hW, hsame⟩ := X1096.leave (v := some (.ref u1)) (fun h => by rw [Bd.returns] at h; cases h)
  refine ⟨_, _, P1097 _ ?_, hrun, hended, _, _, rfl, ?_, ⟨_, rfl⟩, hW, hsame.mono (by decide) (by decide)⟩
  · jvm_step X1096.here [X1096.here.top, hx, (hb hby d19_4), X1096.method', Bd.returns, Value.isRef, FieldType.isReference]
    first | (intro acts; rw [hr _ acts rfl rfl rfl]) | rw [hr _ _ rfl rfl rfl]
    exact Steps.refl _
  · show Q_io1 Z a1 u1 h0 n0 _ T1096.heap _
    rw [e1096]
    exact ⟨rfl, N0, rfl⟩
theorem ef_io0 (m : MethodId) (x0 : Addr) : entryFrame m #[(.ref x0)] 1 = mkF m 0 #[.val (.ref x0)] [] := by first | (simp [entryFrame, mkF, argsToLocals, Value.category]; done) | rfl
def Q_io0 (Z : State) (a1 : Addr) (h0 : Heap) (n0 : Nat) (v : Option Value) (h : Heap) (L : List Loc) : Prop := v = some .null ∧ Fr n0 L ∧ h = h0
set_option maxRecDepth 65536 in
set_option maxHeartbeats 40000000 in
theorem rm_io0 (l : Launch) (Z : State) (a0 : Array Value) (hw : ∀ d ∈ tables_1, d.before a0 Z = true) (ws : List Jvm.Cond) (a1 : Addr) (h0 : Heap) (n0 : Nat) (Z0 : n0 ≤ h0.size) (F1 : Fld Z h0 a1 "com/example/quorumline/quorumline/sim/Site" "io" "Lcom/example/quorumline/quorumline/sim/Server;" .null) :
    MetFree l (⟨"com/example/quorumline/quorumline/sim/Site", "io", "()Lcom/example/quorumline/quorumline/sim/Server;"⟩ : MethodName) (head1 (Jvm.Cond.code (⟨"com/example/quorumline/quorumline/sim/Site", "io", "()Lcom/example/quorumline/quorumline/sim/Server;"⟩ : MethodName) prog_94_method_9_code 1 (some (.object "com/example/quorumline/quorumline/sim/Server")) :: ws) ({ frames := 0, cells := 0, slots := 0, locals := 0 } : Room)) (fun a U => a = #[(.ref a1)] ∧ Z.Warmed39 U.vm ∧ U.heap = h0) (fun _ _ _ _ _ => True) (fun _ U o U' => ∃ v L, o = .returned v ∧ Q_io0 Z a1 h0 n0 v U'.heap L ∧ FrameEnd U o U' L ({ frames := 0, cells := 0, slots := 0, locals := 0 } : Room).cells ({ frames := 0, cells := 0, slots := 0, locals := 0 } : Room).slots) := by
  refine MetFree.of_bodySF (plainFor_of_name pn_6) hisR ?_
  intro p e s m args below meth c s₁ Bd hml0 hP hK
  obtain ⟨rfl, hZ, hh⟩ := hP
  have hx := Bd.exec
  have hby := Bd.bytes
  have hml : c.maxLocals = 1 := hml0
  have hown : s.vm.findClass "com/example/quorumline/quorumline/sim/Site" = some m.cls := findClass_of_methodNamed Bd.named
  have hnm := (name_of_methodNamed Bd.named Bd.method).1
  have X0 : Stand p l e ({ frames := 0, cells := 0, slots := 0, locals := 0 } : Room) s m #[(.ref a1)] below meth c s₁ [] 0 0 := Stand.of_body Bd
  have e0 : s₁.heap = h0 := by rw [← hh, Bd.state]; rfl
  have N0 := Fr.nil n0
  have K0 : Keep h0 h0 [] := Keep.refl h0 []
  have P0 : ∀ t, Steps p.tables e below (s₁.setTop (mkF m 0 #[.val (.ref a1)] [])) t → Steps p.tables e below (s₁.setTop (entryFrame m #[(.ref a1)] 1)) t := fun t k => castTop (ef_io0 m a1) k
  obtain ⟨T1098, X1098, e1098, st1098⟩ := getF X0 hx hZ hown (host := "") (Or.inl (hw _ (List.mem_of_getElem? (i := 133) rfl))) Via.refl e0 F1 (g := (mkF m 1 #[.val (.ref a1)] [(.ref a1)])) rfl rfl (hb hby d19_1)
  have P1099 : ∀ t, Steps p.tables e below (T1098.setTop (mkF m 4 #[.val (.ref a1)] [.null])) t → Steps p.tables e below (s₁.setTop (entryFrame m #[(.ref a1)] 1)) t := fun t k => P0 t (by
    refine XS.aloadN X0.here hx rfl (hb hby d19_0) rfl rfl ?_
    show Steps p.tables e below (s₁.setTop (mkF m 1 #[.val (.ref a1)] [(.ref a1)])) _
    refine st1098 _ ?_
    show Steps p.tables e below (T1098.setTop (mkF m 4 #[.val (.ref a1)] [.null])) _
    exact k)
  obtain ⟨fs, hr, hrun, hended, hW, hsame⟩ := X1098.leave (v := some .null) (fun h => by rw [Bd.returns] at h; cases h)
  refine ⟨_, _, P1099 _ ?_, hrun, hended, _, _, rfl, ?_, ⟨_, rfl⟩, hW, hsame.mono (by decide) (by decide)⟩
  · jvm_step X1098.here [X1098.here.top, hx, (hb hby d19_4), X1098.method', Bd.returns, Value.isRef, FieldType.isReference]
    first | (intro acts; rw [hr _ acts rfl rfl rfl]) | rw [hr _ _ rfl rfl rfl]
    exact Steps.refl _
  · show Q_io0 Z a1 h0 n0 _ T1098.heap _
    rw [e1098]
    exact ⟨rfl, N0, rfl⟩
theorem ef_cpu (m : MethodId) (x0 : Addr) : entryFrame m #[(.ref x0)] 1 = mkF m 0 #[.val (.ref x0)] [] := by first | (simp [entryFrame, mkF, argsToLocals, Value.category]; done) | rfl
def Q_cpu (Z : State) (a1 : Addr) (u1 : Addr) (h0 : Heap) (n0 : Nat) (v : Option Value) (h : Heap) (L : List Loc) : Prop := v = some (.ref u1) ∧ Fr n0 L ∧ h = h0
theorem d20_0 : decode prog_94_method_10_code 0 = .ok (.aload_n 0, 1) := by decide +kernel
theorem d20_1 : decode prog_94_method_10_code 1 = .ok (.getfield 46, 3) := by decide +kernel
theorem d20_4 : decode prog_94_method_10_code 4 = .ok (.areturn, 1) := by decide +kernel
set_option maxRecDepth 65536 in
set_option maxHeartbeats 40000000 in
theorem rm_cpu (l : Launch) (Z : State) (a0 : Array Value) (hw : ∀ d ∈ tables_1, d.before a0 Z = true) (ws : List Jvm.Cond) (a1 : Addr) (u1 : Addr) (h0 : Heap) (n0 : Nat) (Z0 : n0 ≤ h0.size) (F1 : Fld Z h0 a1 "com/example/quorumline/quorumline/sim/Site" "cpu" "Lcom/example/quorumline/quorumline/sim/Server;" (.ref u1)) :
    MetFree l (⟨"com/example/quorumline/quorumline/sim/Site", "cpu", "()Lcom/example/quorumline/quorumline/sim/Server;"⟩ : MethodName) (head1 (Jvm.Cond.code (⟨"com/example/quorumline/quorumline/sim/Site", "cpu", "()Lcom/example/quorumline/quorumline/sim/Server;"⟩ : MethodName) prog_94_method_10_code 1 (some (.object "com/example/quorumline/quorumline/sim/Server")) :: ws) ({ frames := 0, cells := 0, slots := 0, locals := 0 } : Room)) (fun a U => a = #[(.ref a1)] ∧ Z.Warmed39 U.vm ∧ U.heap = h0) (fun _ _ _ _ _ => True) (fun _ U o U' => ∃ v L, o = .returned v ∧ Q_cpu Z a1 u1 h0 n0 v U'.heap L ∧ FrameEnd U o U' L ({ frames := 0, cells := 0, slots := 0, locals := 0 } : Room).cells ({ frames := 0, cells := 0, slots := 0, locals := 0 } : Room).slots) := by
  refine MetFree.of_bodySF (plainFor_of_name pn_6) hisR ?_
  intro p e s m args below meth c s₁ Bd hml0 hP hK
  obtain ⟨rfl, hZ, hh⟩ := hP
  have hx := Bd.exec
  have hby := Bd.bytes
  have hml : c.maxLocals = 1 := hml0
  have hown : s.vm.findClass "com/example/quorumline/quorumline/sim/Site" = some m.cls := findClass_of_methodNamed Bd.named
  have hnm := (name_of_methodNamed Bd.named Bd.method).1
  have X0 : Stand p l e ({ frames := 0, cells := 0, slots := 0, locals := 0 } : Room) s m #[(.ref a1)] below meth c s₁ [] 0 0 := Stand.of_body Bd
  have e0 : s₁.heap = h0 := by rw [← hh, Bd.state]; rfl
  have N0 := Fr.nil n0
  have K0 : Keep h0 h0 [] := Keep.refl h0 []
  have P0 : ∀ t, Steps p.tables e below (s₁.setTop (mkF m 0 #[.val (.ref a1)] [])) t → Steps p.tables e below (s₁.setTop (entryFrame m #[(.ref a1)] 1)) t := fun t k => castTop (ef_cpu m a1) k
  obtain ⟨T1100, X1100, e1100, st1100⟩ := getF X0 hx hZ hown (host := "") (Or.inl (hw _ (List.mem_of_getElem? (i := 135) rfl))) Via.refl e0 F1 (g := (mkF m 1 #[.val (.ref a1)] [(.ref a1)])) rfl rfl (hb hby d20_1)
  have P1101 : ∀ t, Steps p.tables e below (T1100.setTop (mkF m 4 #[.val (.ref a1)] [(.ref u1)])) t → Steps p.tables e below (s₁.setTop (entryFrame m #[(.ref a1)] 1)) t := fun t k => P0 t (by
    refine XS.aloadN X0.here hx rfl (hb hby d20_0) rfl rfl ?_
    show Steps p.tables e below (s₁.setTop (mkF m 1 #[.val (.ref a1)] [(.ref a1)])) _
    refine st1100 _ ?_
    show Steps p.tables e below (T1100.setTop (mkF m 4 #[.val (.ref a1)] [(.ref u1)])) _
    exact k)
  obtain ⟨fs, hr, hrun, hended, hW, hsame⟩ := X1100.leave (v := some (.ref u1)) (fun h => by rw [Bd.returns] at h; cases h)
  refine ⟨_, _, P1101 _ ?_, hrun, hended, _, _, rfl, ?_, ⟨_, rfl⟩, hW, hsame.mono (by decide) (by decide)⟩
  · jvm_step X1100.here [X1100.here.top, hx, (hb hby d20_4), X1100.method', Bd.returns, Value.isRef, FieldType.isReference]
    first | (intro acts; rw [hr _ acts rfl rfl rfl]) | rw [hr _ _ rfl rfl rfl]
    exact Steps.refl _
  · show Q_cpu Z a1 u1 h0 n0 _ T1100.heap _
    rw [e1100]
    exact ⟨rfl, N0, rfl⟩
theorem ef_nmb (m : MethodId) (x0 : Addr) : entryFrame m #[(.ref x0)] 1 = mkF m 0 #[.val (.ref x0)] [] := by first | (simp [entryFrame, mkF, argsToLocals, Value.category]; done) | rfl
def Q_nmb (Z : State) (a1 : Addr) (u1 : Int32) (h0 : Heap) (n0 : Nat) (v : Option Value) (h : Heap) (L : List Loc) : Prop := v = some (.int u1) ∧ Fr n0 L ∧ h = h0
theorem d21_0 : decode prog_94_method_2_code 0 = .ok (.aload_n 0, 1) := by decide +kernel
theorem d21_1 : decode prog_94_method_2_code 1 = .ok (.getfield 7, 3) := by decide +kernel
theorem d21_4 : decode prog_94_method_2_code 4 = .ok (.ireturn, 1) := by decide +kernel
set_option maxRecDepth 65536 in
set_option maxHeartbeats 40000000 in
theorem rm_nmb (l : Launch) (Z : State) (a0 : Array Value) (hw : ∀ d ∈ tables_1, d.before a0 Z = true) (ws : List Jvm.Cond) (a1 : Addr) (u1 : Int32) (h0 : Heap) (n0 : Nat) (Z0 : n0 ≤ h0.size) (F1 : Fld Z h0 a1 "com/example/quorumline/quorumline/sim/Site" "number" "I" (.int u1)) :
    MetFree l (⟨"com/example/quorumline/quorumline/sim/Site", "number", "()I"⟩ : MethodName) (head1 (Jvm.Cond.code (⟨"com/example/quorumline/quorumline/sim/Site", "number", "()I"⟩ : MethodName) prog_94_method_2_code 1 (some .int) :: ws) ({ frames := 0, cells := 0, slots := 0, locals := 0 } : Room)) (fun a U => a = #[(.ref a1)] ∧ Z.Warmed39 U.vm ∧ U.heap = h0) (fun _ _ _ _ _ => True) (fun _ U o U' => ∃ v L, o = .returned v ∧ Q_nmb Z a1 u1 h0 n0 v U'.heap L ∧ FrameEnd U o U' L ({ frames := 0, cells := 0, slots := 0, locals := 0 } : Room).cells ({ frames := 0, cells := 0, slots := 0, locals := 0 } : Room).slots) := by
  refine MetFree.of_bodySF (plainFor_of_name pn_6) hisR ?_
  intro p e s m args below meth c s₁ Bd hml0 hP hK
  obtain ⟨rfl, hZ, hh⟩ := hP
  have hx := Bd.exec
  have hby := Bd.bytes
  have hml : c.maxLocals = 1 := hml0
  have hown : s.vm.findClass "com/example/quorumline/quorumline/sim/Site" = some m.cls := findClass_of_methodNamed Bd.named
  have hnm := (name_of_methodNamed Bd.named Bd.method).1
  have X0 : Stand p l e ({ frames := 0, cells := 0, slots := 0, locals := 0 } : Room) s m #[(.ref a1)] below meth c s₁ [] 0 0 := Stand.of_body Bd
  have e0 : s₁.heap = h0 := by rw [← hh, Bd.state]; rfl
  have N0 := Fr.nil n0
  have K0 : Keep h0 h0 [] := Keep.refl h0 []
  have P0 : ∀ t, Steps p.tables e below (s₁.setTop (mkF m 0 #[.val (.ref a1)] [])) t → Steps p.tables e below (s₁.setTop (entryFrame m #[(.ref a1)] 1)) t := fun t k => castTop (ef_nmb m a1) k
  obtain ⟨T1102, X1102, e1102, st1102⟩ := getF X0 hx hZ hown (host := "") (Or.inl (hw _ (List.mem_of_getElem? (i := 59) rfl))) Via.refl e0 F1 (g := (mkF m 1 #[.val (.ref a1)] [(.ref a1)])) rfl rfl (hb hby d21_1)
  have P1103 : ∀ t, Steps p.tables e below (T1102.setTop (mkF m 4 #[.val (.ref a1)] [(.int u1)])) t → Steps p.tables e below (s₁.setTop (entryFrame m #[(.ref a1)] 1)) t := fun t k => P0 t (by
    refine XS.aloadN X0.here hx rfl (hb hby d21_0) rfl rfl ?_
    show Steps p.tables e below (s₁.setTop (mkF m 1 #[.val (.ref a1)] [(.ref a1)])) _
    refine st1102 _ ?_
    show Steps p.tables e below (T1102.setTop (mkF m 4 #[.val (.ref a1)] [(.int u1)])) _
    exact k)
  obtain ⟨fs, hr, hrun, hended, hW, hsame⟩ := X1102.leave (v := some (.int u1)) (fun h => by rw [Bd.returns] at h; cases h)
  refine ⟨_, _, P1103 _ ?_, hrun, hended, _, _, rfl, ?_, ⟨_, rfl⟩, hW, hsame.mono (by decide) (by decide)⟩
  · exact retI X1102 hx Bd.returns (hb hby d21_4) hr
  · show Q_nmb Z a1 u1 h0 n0 _ T1102.heap _
    rw [e1102]
    exact ⟨rfl, N0, rfl⟩
theorem ef_law (m : MethodId) (x0 : Int32) (x1 : Int32) (x2 : Int32) (x3 : Int32) (x4 : Int32) : entryFrame m #[(.int x0), (.int x1), (.int x2), (.int x3), (.int x4)] maxLocals = mkF m 0 #[.val (.int x0), .val (.int x1), .val (.int x2), .val (.int x3), .val (.int x4), .unset, .unset, .unset, .unset, .unset, .unset, .unset, .unset, .unset, .unset, .unset, .unset, .unset] [] := by first | (simp [entryFrame, mkF, argsToLocals, Value.category, maxLocals]; done) | rfl
def Q_law (Z : State) (u1 : Int32) (u2 : Int32) (u3 : Int32) (u4 : Int32) (u5 : Int32) (ms : Addr) (cz : Int32) (h0 : Heap) (n0 : Nat) (v : Option Value) (h : Heap) (L : List Loc) : Prop := v = some (.int 1) ∧ Fr n0 L
theorem pn_7 : plainName "com/example/quorumline/quorumline/sim/SiteHasIoPinLaw" = true := by first | (simp [plainName, overriddenIn]; done) | decide +kernel
theorem pd_6 : parseMethodDescriptor "([C)V" = some ⟨[(.array .char)], none⟩ := by decide +kernel
theorem pd_7 : parseMethodDescriptor "(Ljava/lang/String;IZDD)V" = some ⟨[(.object "java/lang/String"), .int, .boolean, .double, .double], none⟩ := by decide +kernel
theorem pd_8 : parseMethodDescriptor "(ILcom/example/quorumline/quorumline/sim/Layout$Group;Lcom/example/quorumline/quorumline/sim/Calendar;Lcom/example/quorumline/quorumline/sim/Queues;)V" = some ⟨[.int, (.object "com/example/quorumline/quorumline/sim/Layout$Group"), (.object "com/example/quorumline/quorumline/sim/Calendar"), (.object "com/example/quorumline/quorumline/sim/Queues")], none⟩ := by decide +kernel
theorem pd_9 : parseMethodDescriptor "()Lcom/example/quorumline/quorumline/sim/Server;" = some ⟨[], some (.object "com/example/quorumline/quorumline/sim/Server")⟩ := by decide +kernel
theorem pd_10 : parseMethodDescriptor "()I" = some ⟨[], some .int⟩ := by decide +kernel
set_option maxRecDepth 65536 in
set_option maxHeartbeats 40000000 in
theorem rm_law (l : Launch) (Z : State) (a0 : Array Value) (hw : ∀ d ∈ tables_1, d.before a0 Z = true) (ws : List Jvm.Cond) (u1 : Int32) (u2 : Int32) (u3 : Int32) (u4 : Int32) (u5 : Int32) (ms : Addr) (cz : Int32) (h0 : Heap) (n0 : Nat) (Z0 : n0 ≤ h0.size) (SM : Sta Z Z.heap "com/example/quorumline/quorumline/sim/Moment" "START" "Lcom/example/quorumline/quorumline/sim/Moment;" (.ref ms)) (O1 : Old Z n0 h0) (SC : Sta Z Z.heap "java/lang/String" "COMPACT_STRINGS" "Z" (.int cz)) (hcz : ¬ cz = 0) :
    MetFree l x (head1 (Jvm.Cond.code x code maxLocals ret :: ws) room_1) (fun a U => a = #[(.int u1), (.int u2), (.int u3), (.int u4), (.int u5)] ∧ Z.Warmed39 U.vm ∧ U.heap = h0) (fun _ _ _ _ _ => True) (fun _ U o U' => ∃ v L, o = .returned v ∧ Q_law Z u1 u2 u3 u4 u5 ms cz h0 n0 v U'.heap L ∧ FrameEnd U o U' L room_1.cells room_1.slots) := by
  refine MetFree.of_bodySF (plainFor_of_name pn_7) hisR ?_
  intro p e s m args below meth c s₁ Bd hml0 hP hK
  obtain ⟨rfl, hZ, hh⟩ := hP
  have hx := Bd.exec
  have hby := Bd.bytes
  have hml : c.maxLocals = 18 := hml0
  have hown : s.vm.findClass "com/example/quorumline/quorumline/sim/SiteHasIoPinLaw" = some m.cls := findClass_of_methodNamed Bd.named
  have hnm := (name_of_methodNamed Bd.named Bd.method).1
  have X0 : Stand p l e room_1 s m #[(.int u1), (.int u2), (.int u3), (.int u4), (.int u5)] below meth c s₁ [] 0 0 := Stand.of_body Bd
  have e0 : s₁.heap = h0 := by rw [← hh, Bd.state]; rfl
  have N0 := Fr.nil n0
  have K0 : Keep h0 h0 [] := Keep.refl h0 []
  have P0 : ∀ t, Steps p.tables e below (s₁.setTop (mkF m 0 #[.val (.int u1), .val (.int u2), .val (.int u3), .val (.int u4), .val (.int u5), .unset, .unset, .unset, .unset, .unset, .unset, .unset, .unset, .unset, .unset, .unset, .unset, .unset] [])) t → Steps p.tables e below (s₁.setTop (entryFrame m #[(.int u1), (.int u2), (.int u3), (.int u4), (.int u5)] maxLocals)) t := fun t k => castTop (ef_law m u1 u2 u3 u4 u5) k
  have P1104 : ∀ t, Steps p.tables e below (s₁.setTop (mkF m 3 #[.val (.int u1), .val (.int u2), .val (.int u3), .val (.int u4), .val (.int u5), .unset, .unset, .unset, .unset, .unset, .unset, .unset, .unset, .unset, .unset, .unset, .unset, .unset] [(.int (u2 &&& (1 : Int32)))])) t → Steps p.tables e below (s₁.setTop (entryFrame m #[(.int u1), (.int u2), (.int u3), (.int u4), (.int u5)] maxLocals)) t := fun t k => P0 t (by
    refine XS.iloadN X0.here hx rfl (hb hby at_0) rfl ?_
    show Steps p.tables e below (s₁.setTop (mkF m 1 #[.val (.int u1), .val (.int u2), .val (.int u3), .val (.int u4), .val (.int u5), .unset, .unset, .unset, .unset, .unset, .unset, .unset, .unset, .unset, .unset, .unset, .unset, .unset] [(.int u2)])) _
    refine XS.iconst X0.here hx rfl (hb hby at_1) ?_
    show Steps p.tables e below (s₁.setTop (mkF m 2 #[.val (.int u1), .val (.int u2), .val (.int u3), .val (.int u4), .val (.int u5), .unset, .unset, .unset, .unset, .unset, .unset, .unset, .unset, .unset, .unset, .unset, .unset, .unset] [(.int (1 : Int32)), (.int u2)])) _
    refine XS.iand X0.here hx rfl (hb hby at_2) rfl ?_
    show Steps p.tables e below (s₁.setTop (mkF m 3 #[.val (.int u1), .val (.int u2), .val (.int u3), .val (.int u4), .val (.int u5), .unset, .unset, .unset, .unset, .unset, .unset, .unset, .unset, .unset, .unset, .unset, .unset, .unset] [(.int (u2 &&& (1 : Int32)))])) _
    exact k)
  obtain ⟨wi, hwi, P1105⟩ : ∃ (wi : Int32), (wi = 0 ∨ wi = 1) ∧ (∀ t, Steps p.tables e below (s₁.setTop (mkF m 11 #[.val (.int u1), .val (.int u2), .val (.int u3), .val (.int u4), .val (.int u5), .unset, .unset, .unset, .unset, .unset, .unset, .unset, .unset, .unset, .unset, .unset, .unset, .unset] [(.int wi)])) t → Steps p.tables e below (s₁.setTop (entryFrame m #[(.int u1), (.int u2), (.int u3), (.int u4), (.int u5)] maxLocals)) t) := by
    by_cases h3 : (u2 &&& (1 : Int32)) = (0 : Int32)
    · have P1106 : ∀ t, Steps p.tables e below (s₁.setTop (mkF m 11 #[.val (.int u1), .val (.int u2), .val (.int u3), .val (.int u4), .val (.int u5), .unset, .unset, .unset, .unset, .unset, .unset, .unset, .unset, .unset, .unset, .unset, .unset, .unset] [(.int (0 : Int32))])) t → Steps p.tables e below (s₁.setTop (entryFrame m #[(.int u1), (.int u2), (.int u3), (.int u4), (.int u5)] maxLocals)) t := fun t k => P1104 t (by
        refine XS.ifYes X0.here hx rfl (pc0 := 3) (pc' := 10) rfl (hb hby at_3) rfl ((if0 _ _).trans (teq h3).1) (by decide) (by decide) ?_
        show Steps p.tables e below (s₁.setTop (mkF m 10 #[.val (.int u1), .val (.int u2), .val (.int u3), .val (.int u4), .val (.int u5), .unset, .unset, .unset, .unset, .unset, .unset, .unset, .unset, .unset, .unset, .unset, .unset, .unset] [])) _
        refine XS.iconst X0.here hx rfl (hb hby at_10) ?_
        show Steps p.tables e below (s₁.setTop (mkF m 11 #[.val (.int u1), .val (.int u2), .val (.int u3), .val (.int u4), .val (.int u5), .unset, .unset, .unset, .unset, .unset, .unset, .unset, .unset, .unset, .unset, .unset, .unset, .unset] [(.int (0 : Int32))])) _
        exact k)
      exact ⟨_, Or.inl rfl, P1106⟩
    · have P1107 : ∀ t, Steps p.tables e below (s₁.setTop (mkF m 11 #[.val (.int u1), .val (.int u2), .val (.int u3), .val (.int u4), .val (.int u5), .unset, .unset, .unset, .unset, .unset, .unset, .unset, .unset, .unset, .unset, .unset, .unset, .unset] [(.int (1 : Int32))])) t → Steps p.tables e below (s₁.setTop (entryFrame m #[(.int u1), (.int u2), (.int u3), (.int u4), (.int u5)] maxLocals)) t := fun t k => P1104 t (by
        refine XS.ifNo X0.here hx rfl (hb hby at_3) rfl ((if0 _ _).trans (feq h3).1) ?_
        show Steps p.tables e below (s₁.setTop (mkF m 6 #[.val (.int u1), .val (.int u2), .val (.int u3), .val (.int u4), .val (.int u5), .unset, .unset, .unset, .unset, .unset, .unset, .unset, .unset, .unset, .unset, .unset, .unset, .unset] [])) _
        refine XS.iconst X0.here hx rfl (hb hby at_6) ?_
        show Steps p.tables e below (s₁.setTop (mkF m 7 #[.val (.int u1), .val (.int u2), .val (.int u3), .val (.int u4), .val (.int u5), .unset, .unset, .unset, .unset, .unset, .unset, .unset, .unset, .unset, .unset, .unset, .unset, .unset] [(.int (1 : Int32))])) _
        refine XS.goto X0.here hx rfl (pc0 := 7) (pc' := 11) rfl (hb hby at_7) (by decide) (by decide) ?_
        show Steps p.tables e below (s₁.setTop (mkF m 11 #[.val (.int u1), .val (.int u2), .val (.int u3), .val (.int u4), .val (.int u5), .unset, .unset, .unset, .unset, .unset, .unset, .unset, .unset, .unset, .unset, .unset, .unset, .unset] [(.int (1 : Int32))])) _
        exact k)
      exact ⟨_, Or.inr rfl, P1107⟩
  obtain ⟨T1108, h1108, k1108, X1108, e1108, E1108, A1108, st1108⟩ := newP X0 hx hZ (hw _ (List.mem_of_getElem? (i := 0) rfl)) e0 (g := (mkF m 14 #[.val (.int u1), .val (.int u2), .val (.int u3), .val (.int u4), .val (.int u5), .val (.int wi), .unset, .unset, .unset, .unset, .unset, .unset, .unset, .unset, .unset, .unset, .unset, .unset] [(.int (1 : Int32))])) rfl (hb hby at_14) rfl (by decide) (cap := 1) (by decide) (by decide) (by decide) (by decide)
  obtain ⟨b1108, g1108⟩ : ∃ z, z = h0.size := ⟨_, rfl⟩
  rw [← g1108] at A1108 st1108
  have g_b1108 : n0 ≤ b1108 := Nat.le_trans Z0 (Nat.le_of_eq g1108.symm)
  have sz_b1108 : h0.size ≤ b1108 := Nat.le_trans K0.1 (Nat.le_of_eq g1108.symm)
  have c1109_0 := O1.ext E1108
  have Z1108 : n0 ≤ h1108.size := Nat.le_trans Z0 E1108.1
  have K1108 : Keep h0 h1108 [] := K0.ext E1108
  have V1108 : Arv Z h1108 b1108 k1108 .char (1 : Int32) [(.int (0 : Int32))] (.int (0 : Int32)) := (Arv.new A1108 (by decide)).pad (pad_rep [] (.int (0 : Int32)) 1)
  obtain ⟨cl1110, Ar1110, q1110, S1110, M1110, H1110, G1110⟩ := id V1108
  have hin1110 : ¬ ((0 : Int32) < 0 ∨ cl1110.slots.size ≤ ((0 : Int32)).toNatClampNeg) := inb_of S1110 ⟨by decide, by decide⟩
  obtain ⟨T1110, h1110, X1110, e1110, W1110, st1110⟩ := stC X1108 hx hZ e1108 Ar1110 (j := (0 : Int32)) hin1110 (g := (mkF m 24 #[.val (.int u1), .val (.int u2), .val (.int u3), .val (.int u4), .val (.int u5), .val (.int wi), .unset, .unset, .unset, .unset, .unset, .unset, .unset, .unset, .unset, .unset, .unset, .unset] [(.int ((u3 &&& (255 : Int32)).toUInt32.toUInt16.toUInt32.toInt32)), (.int (0 : Int32)), (.ref b1108), (.ref b1108)])) rfl rfl (hb hby at_24)
  have V1110 := Arv.set Ar1110 q1110 S1110 M1110 H1110 G1110 (fits_nar_char _) W1110 0 rfl (Nat.le_of_ble_eq_true rfl)
  have c1111_0 := c1109_0.wr W1110 g_b1108
  have Z1110 : n0 ≤ h1110.size := Nat.le_trans Z1108 (Nat.le_of_eq W1110.size.symm)
  have K1110 : Keep h0 h1110 [] := K1108.wr W1110 (Or.inr sz_b1108)
  have N1110 := Fr.snoc X1110 N0 g_b1108
  obtain ⟨T1112, h1112, X1112, e1112, E1112, A1112, D1112, -, st1112⟩ := newO X1110 hx hZ hown (hw _ (List.mem_of_getElem? (i := 1) rfl)) (hw _ (List.mem_of_getElem? (i := 2) rfl)) (hw _ (List.mem_of_getElem? (i := 3) rfl)) e1110 (g := (mkF m 27 #[.val (.int u1), .val (.int u2), .val (.int u3), .val (.int u4), .val (.int u5), .val (.int wi), .val (.ref b1108), .unset, .unset, .unset, .unset, .unset, .unset, .unset, .unset, .unset, .unset, .unset] [])) rfl (hb hby at_27) (by decide) (by decide)
  obtain ⟨b1112, g1112⟩ : ∃ z, z = h1110.size := ⟨_, rfl⟩
  rw [← g1112] at A1112 D1112 st1112
  have ne_b1108_b1112 : b1108 ≠ b1112 := Nat.ne_of_lt (Nat.lt_of_lt_of_le V1110.lt (Nat.le_of_eq g1112.symm))
  have g_b1112 : n0 ≤ b1112 := Nat.le_trans Z1110 (Nat.le_of_eq g1112.symm)
  have sz_b1112 : h0.size ≤ b1112 := Nat.le_trans K1110.1 (Nat.le_of_eq g1112.symm)
  have c1113_0 := c1111_0.ext E1112
  have c1113_1 := V1110.ext E1112
  have Z1112 : n0 ≤ h1112.size := Nat.le_trans Z1110 E1112.1
  have K1112 : Keep h0 h1112 [] := K1110.ext E1112
  have F1112_coder : Fld Z h1112 b1112 "java/lang/String" "coder" "B" (.int (0 : Int32)) := D1112 (Or.inr (hw _ (List.mem_of_getElem? (i := 27) rfl))) (ty := .byte) (by decide)
  have F1112_value : Fld Z h1112 b1112 "java/lang/String" "value" "[B" .null := D1112 (Or.inr (hw _ (List.mem_of_getElem? (i := 29) rfl))) (ty := (.array .byte)) (by decide)
  have hws1114 : ∀ d ∈ StrChars.Road.words, d.before a0 Z = true := fun d hd => hw d ((by decide +kernel : ∀ d ∈ StrChars.Road.words, d ∈ tables_1) d hd)
  have hlat1114 : ∀ c ∈ [nar .char ((u3 &&& (255 : Int32)).toUInt32.toUInt16.toUInt32.toInt32)], ¬ c < 0 ∧ ¬ (255 : Int32) < c := own_chr u3
  obtain ⟨_, _, ⟨T1114, L1114, k1114, n1114⟩, -, X1114, ⟨Lc1114, hQ1114, l1114, y1114, z1114⟩, st1114⟩ := X1112.specialBack hx (y := (⟨"java/lang/String", "<init>", "([C)V"⟩ : MethodName)) rfl hown (mvT hZ (hw _ (List.mem_of_getElem? (i := 4) rfl))) (mvT hZ (hw _ (List.mem_of_getElem? (i := 5) rfl))) (mvT hZ (hw _ (List.mem_of_getElem? (i := 6) rfl))) (by decide) (StrChars.Road.backV (W := 1) hZ hws1114 (kI := 4) (hw _ (List.mem_of_getElem? (i := 2) rfl)) (cs := [nar .char ((u3 &&& (255 : Int32)).toUInt32.toUInt16.toUInt32.toInt32)]) (bs := [(nar .char ((u3 &&& (255 : Int32)).toUInt32.toUInt16.toUInt32.toInt32)).toInt8.toInt32]) (n := 1) g_b1112 Z1112 A1112 F1112_value F1112_coder c1113_1 (SC.ext c1113_0.2) hcz rfl rfl (by decide) (by decide) hlat1114 rfl (by decide) (by decide)) (g := (mkF m 33 #[.val (.int u1), .val (.int u2), .val (.int u3), .val (.int u4), .val (.int u5), .val (.int wi), .val (.ref b1108), .unset, .unset, .unset, .unset, .unset, .unset, .unset, .unset, .unset, .unset, .unset] [(.ref b1108), (.ref b1112), (.ref b1112)])) rfl (by rw [hml]; rfl) (Steps.refl _) (a := b1112) (argsL := [(.ref b1108)]) (rest := [(.ref b1112)]) (lenOf pd_6 rfl) rfl (by show 2 * 0 + _ ≤ _; exact Nat.le_of_eq rfl) (hb hby at_33) (fun _ _ => ⟨rfl, e1112, (by decide : 2 + 1 ≤ _), (by decide : 5 + 1 ≤ _)⟩)
  dsimp only [Pt.U, Pt.locs, Pt.cells, Pt.slots] at X1114 l1114 y1114 z1114 st1114 hQ1114
  subst l1114 y1114 z1114
  obtain ⟨rfl, N1114q, K1114q, E1114, C1114, t1114, kb1114, tg1114, th1114, tne1114, Vv1114, Va1114⟩ := hQ1114
  have N1114 := Fr.app N1110 N1114q
  have c1115_0 := c1113_0.keep K1114q (allS g_b1112 all0)
  have c1115_1 := c1113_1.keep K1114q (ninS ne_b1108_b1112 nin0)
  have Z1114 : n0 ≤ T1114.heap.size := Nat.le_trans Z1112 K1114q.1
  have K1114 : Keep h0 T1114.heap [] := K1112.trans K1114q (allS (Or.inr sz_b1112) all0)
  have P1116 : ∀ t, Steps p.tables e below (T1114.setTop (mkF m 48 #[.val (.int u1), .val (.int u2), .val (.int u3), .val (.int u4), .val (.int u5), .val (.int wi), .val (.ref b1108), .val (.ref b1112), .val (.int ((1 : Int32) + (((u2.toUInt32 >>> ((1 : Int32) &&& 31).toUInt32).toInt32) &&& (7 : Int32)))), .unset, .unset, .unset, .unset, .unset, .unset, .unset, .unset, .unset] [])) t → Steps p.tables e below (s₁.setTop (entryFrame m #[(.int u1), (.int u2), (.int u3), (.int u4), (.int u5)] maxLocals)) t := fun t k => P1105 t (by
    refine XS.istore X0.here hx rfl (hb hby at_11) rfl (l' := #[.val (.int u1), .val (.int u2), .val (.int u3), .val (.int u4), .val (.int u5), .val (.int wi), .unset, .unset, .unset, .unset, .unset, .unset, .unset, .unset, .unset, .unset, .unset, .unset]) rfl ?_
    show Steps p.tables e below (s₁.setTop (mkF m 13 #[.val (.int u1), .val (.int u2), .val (.int u3), .val (.int u4), .val (.int u5), .val (.int wi), .unset, .unset, .unset, .unset, .unset, .unset, .unset, .unset, .unset, .unset, .unset, .unset] [])) _
    refine XS.iconst X0.here hx rfl (hb hby at_13) ?_
    show Steps p.tables e below (s₁.setTop (mkF m 14 #[.val (.int u1), .val (.int u2), .val (.int u3), .val (.int u4), .val (.int u5), .val (.int wi), .unset, .unset, .unset, .unset, .unset, .unset, .unset, .unset, .unset, .unset, .unset, .unset] [(.int (1 : Int32))])) _
    refine st1108 _ ?_
    show Steps p.tables e below (T1108.setTop (mkF m 16 #[.val (.int u1), .val (.int u2), .val (.int u3), .val (.int u4), .val (.int u5), .val (.int wi), .unset, .unset, .unset, .unset, .unset, .unset, .unset, .unset, .unset, .unset, .unset, .unset] [(.ref b1108)])) _
    refine XS.dup X1108.here hx rfl (hb hby at_16) rfl rfl ?_
    show Steps p.tables e below (T1108.setTop (mkF m 17 #[.val (.int u1), .val (.int u2), .val (.int u3), .val (.int u4), .val (.int u5), .val (.int wi), .unset, .unset, .unset, .unset, .unset, .unset, .unset, .unset, .unset, .unset, .unset, .unset] [(.ref b1108), (.ref b1108)])) _
    refine XS.iconst X1108.here hx rfl (hb hby at_17) ?_
    show Steps p.tables e below (T1108.setTop (mkF m 18 #[.val (.int u1), .val (.int u2), .val (.int u3), .val (.int u4), .val (.int u5), .val (.int wi), .unset, .unset, .unset, .unset, .unset, .unset, .unset, .unset, .unset, .unset, .unset, .unset] [(.int (0 : Int32)), (.ref b1108), (.ref b1108)])) _
    refine XS.iloadN X1108.here hx rfl (hb hby at_18) rfl ?_
    show Steps p.tables e below (T1108.setTop (mkF m 19 #[.val (.int u1), .val (.int u2), .val (.int u3), .val (.int u4), .val (.int u5), .val (.int wi), .unset, .unset, .unset, .unset, .unset, .unset, .unset, .unset, .unset, .unset, .unset, .unset] [(.int u3), (.int (0 : Int32)), (.ref b1108), (.ref b1108)])) _
    refine XS.sipush X1108.here hx rfl (hb hby at_19) ?_
    show Steps p.tables e below (T1108.setTop (mkF m 22 #[.val (.int u1), .val (.int u2), .val (.int u3), .val (.int u4), .val (.int u5), .val (.int wi), .unset, .unset, .unset, .unset, .unset, .unset, .unset, .unset, .unset, .unset, .unset, .unset] [(.int (255 : Int32)), (.int u3), (.int (0 : Int32)), (.ref b1108), (.ref b1108)])) _
    refine XS.iand X1108.here hx rfl (hb hby at_22) rfl ?_
    show Steps p.tables e below (T1108.setTop (mkF m 23 #[.val (.int u1), .val (.int u2), .val (.int u3), .val (.int u4), .val (.int u5), .val (.int wi), .unset, .unset, .unset, .unset, .unset, .unset, .unset, .unset, .unset, .unset, .unset, .unset] [(.int (u3 &&& (255 : Int32))), (.int (0 : Int32)), (.ref b1108), (.ref b1108)])) _
    refine XS.i2c X1108.here hx rfl (hb hby at_23) rfl ?_
    show Steps p.tables e below (T1108.setTop (mkF m 24 #[.val (.int u1), .val (.int u2), .val (.int u3), .val (.int u4), .val (.int u5), .val (.int wi), .unset, .unset, .unset, .unset, .unset, .unset, .unset, .unset, .unset, .unset, .unset, .unset] [(.int ((u3 &&& (255 : Int32)).toUInt32.toUInt16.toUInt32.toInt32)), (.int (0 : Int32)), (.ref b1108), (.ref b1108)])) _
    refine st1110 _ ?_
    show Steps p.tables e below (T1110.setTop (mkF m 25 #[.val (.int u1), .val (.int u2), .val (.int u3), .val (.int u4), .val (.int u5), .val (.int wi), .unset, .unset, .unset, .unset, .unset, .unset, .unset, .unset, .unset, .unset, .unset, .unset] [(.ref b1108)])) _
    refine XS.astore X1110.here hx rfl (hb hby at_25) rfl rfl (l' := #[.val (.int u1), .val (.int u2), .val (.int u3), .val (.int u4), .val (.int u5), .val (.int wi), .val (.ref b1108), .unset, .unset, .unset, .unset, .unset, .unset, .unset, .unset, .unset, .unset, .unset]) rfl ?_
    show Steps p.tables e below (T1110.setTop (mkF m 27 #[.val (.int u1), .val (.int u2), .val (.int u3), .val (.int u4), .val (.int u5), .val (.int wi), .val (.ref b1108), .unset, .unset, .unset, .unset, .unset, .unset, .unset, .unset, .unset, .unset, .unset] [])) _
    refine st1112 _ ?_
    show Steps p.tables e below (T1112.setTop (mkF m 30 #[.val (.int u1), .val (.int u2), .val (.int u3), .val (.int u4), .val (.int u5), .val (.int wi), .val (.ref b1108), .unset, .unset, .unset, .unset, .unset, .unset, .unset, .unset, .unset, .unset, .unset] [(.ref b1112)])) _
    refine XS.dup X1112.here hx rfl (hb hby at_30) rfl rfl ?_
    show Steps p.tables e below (T1112.setTop (mkF m 31 #[.val (.int u1), .val (.int u2), .val (.int u3), .val (.int u4), .val (.int u5), .val (.int wi), .val (.ref b1108), .unset, .unset, .unset, .unset, .unset, .unset, .unset, .unset, .unset, .unset, .unset] [(.ref b1112), (.ref b1112)])) _
    refine XS.aload X1112.here hx rfl (hb hby at_31) rfl rfl ?_
    show Steps p.tables e below (T1112.setTop (mkF m 33 #[.val (.int u1), .val (.int u2), .val (.int u3), .val (.int u4), .val (.int u5), .val (.int wi), .val (.ref b1108), .unset, .unset, .unset, .unset, .unset, .unset, .unset, .unset, .unset, .unset, .unset] [(.ref b1108), (.ref b1112), (.ref b1112)])) _
    refine st1114.trans ?_
    show Steps p.tables e below (T1114.setTop (mkF m 36 #[.val (.int u1), .val (.int u2), .val (.int u3), .val (.int u4), .val (.int u5), .val (.int wi), .val (.ref b1108), .unset, .unset, .unset, .unset, .unset, .unset, .unset, .unset, .unset, .unset, .unset] [(.ref b1112)])) _
    refine XS.astore X1114.here hx rfl (hb hby at_36) rfl rfl (l' := #[.val (.int u1), .val (.int u2), .val (.int u3), .val (.int u4), .val (.int u5), .val (.int wi), .val (.ref b1108), .val (.ref b1112), .unset, .unset, .unset, .unset, .unset, .unset, .unset, .unset, .unset, .unset]) rfl ?_
    show Steps p.tables e below (T1114.setTop (mkF m 38 #[.val (.int u1), .val (.int u2), .val (.int u3), .val (.int u4), .val (.int u5), .val (.int wi), .val (.ref b1108), .val (.ref b1112), .unset, .unset, .unset, .unset, .unset, .unset, .unset, .unset, .unset, .unset] [])) _
    refine XS.iconst X1114.here hx rfl (hb hby at_38) ?_
    show Steps p.tables e below (T1114.setTop (mkF m 39 #[.val (.int u1), .val (.int u2), .val (.int u3), .val (.int u4), .val (.int u5), .val (.int wi), .val (.ref b1108), .val (.ref b1112), .unset, .unset, .unset, .unset, .unset, .unset, .unset, .unset, .unset, .unset] [(.int (1 : Int32))])) _
    refine XS.iloadN X1114.here hx rfl (hb hby at_39) rfl ?_
    show Steps p.tables e below (T1114.setTop (mkF m 40 #[.val (.int u1), .val (.int u2), .val (.int u3), .val (.int u4), .val (.int u5), .val (.int wi), .val (.ref b1108), .val (.ref b1112), .unset, .unset, .unset, .unset, .unset, .unset, .unset, .unset, .unset, .unset] [(.int u2), (.int (1 : Int32))])) _
    refine XS.iconst X1114.here hx rfl (hb hby at_40) ?_
    show Steps p.tables e below (T1114.setTop (mkF m 41 #[.val (.int u1), .val (.int u2), .val (.int u3), .val (.int u4), .val (.int u5), .val (.int wi), .val (.ref b1108), .val (.ref b1112), .unset, .unset, .unset, .unset, .unset, .unset, .unset, .unset, .unset, .unset] [(.int (1 : Int32)), (.int u2), (.int (1 : Int32))])) _
    refine XS.iushr X1114.here hx rfl (hb hby at_41) rfl ?_
    show Steps p.tables e below (T1114.setTop (mkF m 42 #[.val (.int u1), .val (.int u2), .val (.int u3), .val (.int u4), .val (.int u5), .val (.int wi), .val (.ref b1108), .val (.ref b1112), .unset, .unset, .unset, .unset, .unset, .unset, .unset, .unset, .unset, .unset] [(.int ((u2.toUInt32 >>> ((1 : Int32) &&& 31).toUInt32).toInt32)), (.int (1 : Int32))])) _
    refine XS.bipush X1114.here hx rfl (hb hby at_42) ?_
    show Steps p.tables e below (T1114.setTop (mkF m 44 #[.val (.int u1), .val (.int u2), .val (.int u3), .val (.int u4), .val (.int u5), .val (.int wi), .val (.ref b1108), .val (.ref b1112), .unset, .unset, .unset, .unset, .unset, .unset, .unset, .unset, .unset, .unset] [(.int (7 : Int32)), (.int ((u2.toUInt32 >>> ((1 : Int32) &&& 31).toUInt32).toInt32)), (.int (1 : Int32))])) _
    refine XS.iand X1114.here hx rfl (hb hby at_44) rfl ?_
    show Steps p.tables e below (T1114.setTop (mkF m 45 #[.val (.int u1), .val (.int u2), .val (.int u3), .val (.int u4), .val (.int u5), .val (.int wi), .val (.ref b1108), .val (.ref b1112), .unset, .unset, .unset, .unset, .unset, .unset, .unset, .unset, .unset, .unset] [(.int (((u2.toUInt32 >>> ((1 : Int32) &&& 31).toUInt32).toInt32) &&& (7 : Int32))), (.int (1 : Int32))])) _
    refine XS.iadd X1114.here hx rfl (hb hby at_45) rfl ?_
    show Steps p.tables e below (T1114.setTop (mkF m 46 #[.val (.int u1), .val (.int u2), .val (.int u3), .val (.int u4), .val (.int u5), .val (.int wi), .val (.ref b1108), .val (.ref b1112), .unset, .unset, .unset, .unset, .unset, .unset, .unset, .unset, .unset, .unset] [(.int ((1 : Int32) + (((u2.toUInt32 >>> ((1 : Int32) &&& 31).toUInt32).toInt32) &&& (7 : Int32))))])) _
    refine XS.istore X1114.here hx rfl (hb hby at_46) rfl (l' := #[.val (.int u1), .val (.int u2), .val (.int u3), .val (.int u4), .val (.int u5), .val (.int wi), .val (.ref b1108), .val (.ref b1112), .val (.int ((1 : Int32) + (((u2.toUInt32 >>> ((1 : Int32) &&& 31).toUInt32).toInt32) &&& (7 : Int32)))), .unset, .unset, .unset, .unset, .unset, .unset, .unset, .unset, .unset]) rfl ?_
    show Steps p.tables e below (T1114.setTop (mkF m 48 #[.val (.int u1), .val (.int u2), .val (.int u3), .val (.int u4), .val (.int u5), .val (.int wi), .val (.ref b1108), .val (.ref b1112), .val (.int ((1 : Int32) + (((u2.toUInt32 >>> ((1 : Int32) &&& 31).toUInt32).toInt32) &&& (7 : Int32)))), .unset, .unset, .unset, .unset, .unset, .unset, .unset, .unset, .unset] [])) _
    exact k)
  obtain ⟨n8, hn8⟩ : ∃ z, z = ((1 : Int32) + (((u2.toUInt32 >>> ((1 : Int32) &&& 31).toUInt32).toInt32) &&& (7 : Int32))) := ⟨_, rfl⟩
  rw [← hn8] at P1116
  have P1117 : ∀ t, Steps p.tables e below (T1114.setTop (mkF m 56 #[.val (.int u1), .val (.int u2), .val (.int u3), .val (.int u4), .val (.int u5), .val (.int wi), .val (.ref b1108), .val (.ref b1112), .val (.int n8), .val (.double (FP.i2d (u4 &&& (255 : Int32)))), .second, .unset, .unset, .unset, .unset, .unset, .unset, .unset] [])) t → Steps p.tables e below (s₁.setTop (entryFrame m #[(.int u1), (.int u2), (.int u3), (.int u4), (.int u5)] maxLocals)) t := fun t k => P1116 t (by
    refine XS.iloadN X1114.here hx rfl (hb hby at_48) rfl ?_
    show Steps p.tables e below (T1114.setTop (mkF m 49 #[.val (.int u1), .val (.int u2), .val (.int u3), .val (.int u4), .val (.int u5), .val (.int wi), .val (.ref b1108), .val (.ref b1112), .val (.int n8), .unset, .unset, .unset, .unset, .unset, .unset, .unset, .unset, .unset] [(.int u4)])) _
    refine XS.sipush X1114.here hx rfl (hb hby at_49) ?_
    show Steps p.tables e below (T1114.setTop (mkF m 52 #[.val (.int u1), .val (.int u2), .val (.int u3), .val (.int u4), .val (.int u5), .val (.int wi), .val (.ref b1108), .val (.ref b1112), .val (.int n8), .unset, .unset, .unset, .unset, .unset, .unset, .unset, .unset, .unset] [(.int (255 : Int32)), (.int u4)])) _
    refine XS.iand X1114.here hx rfl (hb hby at_52) rfl ?_
    show Steps p.tables e below (T1114.setTop (mkF m 53 #[.val (.int u1), .val (.int u2), .val (.int u3), .val (.int u4), .val (.int u5), .val (.int wi), .val (.ref b1108), .val (.ref b1112), .val (.int n8), .unset, .unset, .unset, .unset, .unset, .unset, .unset, .unset, .unset] [(.int (u4 &&& (255 : Int32)))])) _
    refine XS.i2dS X1114.here hx rfl (hb hby at_53) rfl (v := FP.i2d (u4 &&& (255 : Int32))) rfl ?_
    show Steps p.tables e below (T1114.setTop (mkF m 54 #[.val (.int u1), .val (.int u2), .val (.int u3), .val (.int u4), .val (.int u5), .val (.int wi), .val (.ref b1108), .val (.ref b1112), .val (.int n8), .unset, .unset, .unset, .unset, .unset, .unset, .unset, .unset, .unset] [(.double (FP.i2d (u4 &&& (255 : Int32))))])) _
    refine XS.dstore X1114.here hx rfl (hb hby at_54) rfl (l' := #[.val (.int u1), .val (.int u2), .val (.int u3), .val (.int u4), .val (.int u5), .val (.int wi), .val (.ref b1108), .val (.ref b1112), .val (.int n8), .val (.double (FP.i2d (u4 &&& (255 : Int32)))), .second, .unset, .unset, .unset, .unset, .unset, .unset, .unset]) rfl ?_
    show Steps p.tables e below (T1114.setTop (mkF m 56 #[.val (.int u1), .val (.int u2), .val (.int u3), .val (.int u4), .val (.int u5), .val (.int wi), .val (.ref b1108), .val (.ref b1112), .val (.int n8), .val (.double (FP.i2d (u4 &&& (255 : Int32)))), .second, .unset, .unset, .unset, .unset, .unset, .unset, .unset] [])) _
    exact k)
  obtain ⟨dd1, hdd1⟩ : ∃ z, z = (FP.i2d (u4 &&& (255 : Int32))) := ⟨_, rfl⟩
  rw [← hdd1] at P1117
  have P1118 : ∀ t, Steps p.tables e below (T1114.setTop (mkF m 65 #[.val (.int u1), .val (.int u2), .val (.int u3), .val (.int u4), .val (.int u5), .val (.int wi), .val (.ref b1108), .val (.ref b1112), .val (.int n8), .val (.double dd1), .second, .val (.double (FP.i2d (u5 &&& (255 : Int32)))), .second, .unset, .unset, .unset, .unset, .unset] [])) t → Steps p.tables e below (s₁.setTop (entryFrame m #[(.int u1), (.int u2), (.int u3), (.int u4), (.int u5)] maxLocals)) t := fun t k => P1117 t (by
    refine XS.iload X1114.here hx rfl (hb hby at_56) rfl ?_
    show Steps p.tables e below (T1114.setTop (mkF m 58 #[.val (.int u1), .val (.int u2), .val (.int u3), .val (.int u4), .val (.int u5), .val (.int wi), .val (.ref b1108), .val (.ref b1112), .val (.int n8), .val (.double dd1), .second, .unset, .unset, .unset, .unset, .unset, .unset, .unset] [(.int u5)])) _
    refine XS.sipush X1114.here hx rfl (hb hby at_58) ?_
    show Steps p.tables e below (T1114.setTop (mkF m 61 #[.val (.int u1), .val (.int u2), .val (.int u3), .val (.int u4), .val (.int u5), .val (.int wi), .val (.ref b1108), .val (.ref b1112), .val (.int n8), .val (.double dd1), .second, .unset, .unset, .unset, .unset, .unset, .unset, .unset] [(.int (255 : Int32)), (.int u5)])) _
    refine XS.iand X1114.here hx rfl (hb hby at_61) rfl ?_
    show Steps p.tables e below (T1114.setTop (mkF m 62 #[.val (.int u1), .val (.int u2), .val (.int u3), .val (.int u4), .val (.int u5), .val (.int wi), .val (.ref b1108), .val (.ref b1112), .val (.int n8), .val (.double dd1), .second, .unset, .unset, .unset, .unset, .unset, .unset, .unset] [(.int (u5 &&& (255 : Int32)))])) _
    refine XS.i2dS X1114.here hx rfl (hb hby at_62) rfl (v := FP.i2d (u5 &&& (255 : Int32))) rfl ?_
    show Steps p.tables e below (T1114.setTop (mkF m 63 #[.val (.int u1), .val (.int u2), .val (.int u3), .val (.int u4), .val (.int u5), .val (.int wi), .val (.ref b1108), .val (.ref b1112), .val (.int n8), .val (.double dd1), .second, .unset, .unset, .unset, .unset, .unset, .unset, .unset] [(.double (FP.i2d (u5 &&& (255 : Int32))))])) _
    refine XS.dstore X1114.here hx rfl (hb hby at_63) rfl (l' := #[.val (.int u1), .val (.int u2), .val (.int u3), .val (.int u4), .val (.int u5), .val (.int wi), .val (.ref b1108), .val (.ref b1112), .val (.int n8), .val (.double dd1), .second, .val (.double (FP.i2d (u5 &&& (255 : Int32)))), .second, .unset, .unset, .unset, .unset, .unset]) rfl ?_
    show Steps p.tables e below (T1114.setTop (mkF m 65 #[.val (.int u1), .val (.int u2), .val (.int u3), .val (.int u4), .val (.int u5), .val (.int wi), .val (.ref b1108), .val (.ref b1112), .val (.int n8), .val (.double dd1), .second, .val (.double (FP.i2d (u5 &&& (255 : Int32)))), .second, .unset, .unset, .unset, .unset, .unset] [])) _
    exact k)
  obtain ⟨dd2, hdd2⟩ : ∃ z, z = (FP.i2d (u5 &&& (255 : Int32))) := ⟨_, rfl⟩
  rw [← hdd2] at P1118
  obtain ⟨T1119, h1119, X1119, e1119, E1119, A1119, D1119, -, st1119⟩ := newO X1114 hx hZ hown (hw _ (List.mem_of_getElem? (i := 30) rfl)) (hw _ (List.mem_of_getElem? (i := 31) rfl)) (hw _ (List.mem_of_getElem? (i := 32) rfl)) rfl (g := (mkF m 65 #[.val (.int u1), .val (.int u2), .val (.int u3), .val (.int u4), .val (.int u5), .val (.int wi), .val (.ref b1108), .val (.ref b1112), .val (.int n8), .val (.double dd1), .second, .val (.double dd2), .second, .unset, .unset, .unset, .unset, .unset] [])) rfl (hb hby at_65) (by decide) (by decide)
  obtain ⟨b1119, g1119⟩ : ∃ z, z = T1114.heap.size := ⟨_, rfl⟩
  rw [← g1119] at A1119 D1119 st1119
  have ne_b1112_b1119 : b1112 ≠ b1119 := Nat.ne_of_lt (Nat.lt_of_lt_of_le E1114.lt (Nat.le_of_eq g1119.symm))
  have g_b1119 : n0 ≤ b1119 := Nat.le_trans Z1114 (Nat.le_of_eq g1119.symm)
  have sz_b1119 : h0.size ≤ b1119 := Nat.le_trans K1114.1 (Nat.le_of_eq g1119.symm)
  have c1120_0 := c1115_0.ext E1119
  have c1120_1 := E1114.ext E1119
  have c1120_2 := Vv1114.ext E1119
  have Z1119 : n0 ≤ h1119.size := Nat.le_trans Z1114 E1119.1
  have K1119 : Keep h0 h1119 [] := K1114.ext E1119
  have F1119_kind : Fld Z h1119 b1119 "com/example/quorumline/quorumline/sim/Layout$Group" "kind" "Ljava/lang/String;" .null := D1119 (Or.inr (hw _ (List.mem_of_getElem? (i := 43) rfl))) (ty := (.object "java/lang/String")) (by decide)
  have F1119_count : Fld Z h1119 b1119 "com/example/quorumline/quorumline/sim/Layout$Group" "count" "I" (.int (0 : Int32)) := D1119 (Or.inr (hw _ (List.mem_of_getElem? (i := 45) rfl))) (ty := .int) (by decide)
  have F1119_io : Fld Z h1119 b1119 "com/example/quorumline/quorumline/sim/Layout$Group" "io" "Z" (.int (0 : Int32)) := D1119 (Or.inr (hw _ (List.mem_of_getElem? (i := 47) rfl))) (ty := .boolean) (by decide)
  have F1119_cpuSlice : Fld Z h1119 b1119 "com/example/quorumline/quorumline/sim/Layout$Group" "cpuSlice" "D" (.double (0 : UInt64)) := D1119 (Or.inr (hw _ (List.mem_of_getElem? (i := 49) rfl))) (ty := .double) (by decide)
  have F1119_messageCpu : Fld Z h1119 b1119 "com/example/quorumline/quorumline/sim/Layout$Group" "messageCpu" "D" (.double (0 : UInt64)) := D1119 (Or.inr (hw _ (List.mem_of_getElem? (i := 51) rfl))) (ty := .double) (by decide)
  obtain ⟨_, _, ⟨T1121, L1121, k1121, n1121⟩, -, X1121, ⟨Lc1121, hQ1121, l1121, y1121, z1121⟩, st1121⟩ := X1119.specialBack hx (y := (⟨"com/example/quorumline/quorumline/sim/Layout$Group", "<init>", "(Ljava/lang/String;IZDD)V"⟩ : MethodName)) rfl hown (mvT hZ (hw _ (List.mem_of_getElem? (i := 33) rfl))) (mvT hZ (hw _ (List.mem_of_getElem? (i := 34) rfl))) (mvT hZ (hw _ (List.mem_of_getElem? (i := 35) rfl))) (by decide) (backOf (W := 1) (rm_gri l Z a0 hw [] b1119 b1112 n8 wi dd1 dd2 h1119 n0 Z1119 A1119 F1119_kind F1119_count F1119_io F1119_cpuSlice F1119_messageCpu g_b1119 hwi) hZ (hw _ (List.mem_of_getElem? (i := 35) rfl)) (hw _ (List.mem_of_getElem? (i := 32) rfl)) (by decide) (by decide)) (g := (mkF m 79 #[.val (.int u1), .val (.int u2), .val (.int u3), .val (.int u4), .val (.int u5), .val (.int wi), .val (.ref b1108), .val (.ref b1112), .val (.int n8), .val (.double dd1), .second, .val (.double dd2), .second, .unset, .unset, .unset, .unset, .unset] [(.double dd2), (.double dd1), (.int wi), (.int n8), (.ref b1112), (.ref b1119), (.ref b1119)])) rfl (by rw [hml]; rfl) (Steps.refl _) (a := b1119) (argsL := [(.ref b1112), (.int n8), (.int wi), (.double dd1), (.double dd2)]) (rest := [(.ref b1119)]) (lenOf pd_7 rfl) rfl (by show 2 * 0 + _ ≤ _; exact Nat.le_of_eq rfl) (hb hby at_79) (fun _ _ => ⟨rfl, e1119, (by decide : 4 + 0 ≤ _), (by decide : 11 + 0 ≤ _)⟩)
  dsimp only [Pt.U, Pt.locs, Pt.cells, Pt.slots] at X1121 l1121 y1121 z1121 st1121 hQ1121
  subst l1121 y1121 z1121
  obtain ⟨rfl, N1121q, Kg, Eg, Gg_kind, Gg_io, Gg_cpuSlice, Gg_messageCpu⟩ := hQ1121
  have N1121 := Fr.app N1114 N1121q
  have c1122_0 := c1120_0.keep Kg (allS g_b1119 all0)
  have c1122_1 := c1120_1.keep Kg
  have c1122_2 := c1120_2.keep Kg (ninS ne_b1112_b1119 nin0)
  have Z1121 : n0 ≤ T1121.heap.size := Nat.le_trans Z1119 Kg.1
  have K1121 : Keep h0 T1121.heap [] := K1119.trans Kg (allS (Or.inr sz_b1119) all0)
  obtain ⟨T1123, h1123, X1123, e1123, E1123, A1123, D1123, -, st1123⟩ := newO X1121 hx hZ hown (hw _ (List.mem_of_getElem? (i := 52) rfl)) (hw _ (List.mem_of_getElem? (i := 53) rfl)) (hw _ (List.mem_of_getElem? (i := 54) rfl)) rfl (g := (mkF m 84 #[.val (.int u1), .val (.int u2), .val (.int u3), .val (.int u4), .val (.int u5), .val (.int wi), .val (.ref b1108), .val (.ref b1112), .val (.int n8), .val (.double dd1), .second, .val (.double dd2), .second, .val (.ref b1119), .unset, .unset, .unset, .unset] [])) rfl (hb hby at_84) (by decide) (by decide)
  obtain ⟨b1123, g1123⟩ : ∃ z, z = T1121.heap.size := ⟨_, rfl⟩
  rw [← g1123] at A1123 D1123 st1123
  have ne_b1112_b1123 : b1112 ≠ b1123 := Nat.ne_of_lt (Nat.lt_of_lt_of_le c1122_1.lt (Nat.le_of_eq g1123.symm))
  have ne_b1119_b1123 : b1119 ≠ b1123 := Nat.ne_of_lt (Nat.lt_of_lt_of_le Eg.lt (Nat.le_of_eq g1123.symm))
  have g_b1123 : n0 ≤ b1123 := Nat.le_trans Z1121 (Nat.le_of_eq g1123.symm)
  have sz_b1123 : h0.size ≤ b1123 := Nat.le_trans K1121.1 (Nat.le_of_eq g1123.symm)
  have c1124_0 := c1122_0.ext E1123
  have c1124_1 := c1122_1.ext E1123
  have c1124_2 := c1122_2.ext E1123
  have c1124_3 := Eg.ext E1123
  have c1124_4 := Gg_kind.ext E1123
  have c1124_5 := Gg_io.ext E1123
  have c1124_6 := Gg_cpuSlice.ext E1123
  have c1124_7 := Gg_messageCpu.ext E1123
  have Z1123 : n0 ≤ h1123.size := Nat.le_trans Z1121 E1123.1
  have K1123 : Keep h0 h1123 [] := K1121.ext E1123
  have F1123_number : Fld Z h1123 b1123 "com/example/quorumline/quorumline/sim/Site" "number" "I" (.int (0 : Int32)) := D1123 (Or.inr (hw _ (List.mem_of_getElem? (i := 60) rfl))) (ty := .int) (by decide)
  have F1123_kind : Fld Z h1123 b1123 "com/example/quorumline/quorumline/sim/Site" "kind" "Ljava/lang/String;" .null := D1123 (Or.inr (hw _ (List.mem_of_getElem? (i := 67) rfl))) (ty := (.object "java/lang/String")) (by decide)
  have F1123_cpuSlice : Fld Z h1123 b1123 "com/example/quorumline/quorumline/sim/Site" "cpuSlice" "D" (.double (0 : UInt64)) := D1123 (Or.inr (hw _ (List.mem_of_getElem? (i := 74) rfl))) (ty := .double) (by decide)
  have F1123_messageCpu : Fld Z h1123 b1123 "com/example/quorumline/quorumline/sim/Site" "messageCpu" "D" (.double (0 : UInt64)) := D1123 (Or.inr (hw _ (List.mem_of_getElem? (i := 81) rfl))) (ty := .double) (by decide)
  have F1123_io : Fld Z h1123 b1123 "com/example/quorumline/quorumline/sim/Site" "io" "Lcom/example/quorumline/quorumline/sim/Server;" .null := D1123 (Or.inr (hw _ (List.mem_of_getElem? (i := 134) rfl))) (ty := (.object "com/example/quorumline/quorumline/sim/Server")) (by decide)
  have F1123_cpu : Fld Z h1123 b1123 "com/example/quorumline/quorumline/sim/Site" "cpu" "Lcom/example/quorumline/quorumline/sim/Server;" .null := D1123 (Or.inr (hw _ (List.mem_of_getElem? (i := 136) rfl))) (ty := (.object "com/example/quorumline/quorumline/sim/Server")) (by decide)
  obtain ⟨_, _, ⟨T1125, L1125, k1125, n1125⟩, -, X1125, ⟨Lc1125, hQ1125, l1125, y1125, z1125⟩, st1125⟩ := X1123.specialBack hx (y := (⟨"com/example/quorumline/quorumline/sim/Site", "<init>", "(ILcom/example/quorumline/quorumline/sim/Layout$Group;Lcom/example/quorumline/quorumline/sim/Calendar;Lcom/example/quorumline/quorumline/sim/Queues;)V"⟩ : MethodName)) rfl hown (mvT hZ (hw _ (List.mem_of_getElem? (i := 55) rfl))) (mvT hZ (hw _ (List.mem_of_getElem? (i := 56) rfl))) (mvT hZ (hw _ (List.mem_of_getElem? (i := 57) rfl))) (by decide) (backOf (W := 1) (rm_sii l Z a0 hw [] b1123 u1 b1119 b1112 wi dd1 dd2 ms h1123 n0 Z1123 A1123 F1123_number F1123_kind F1123_cpuSlice F1123_messageCpu F1123_io F1123_cpu g_b1123 c1124_3 c1124_4 c1124_5 c1124_6 c1124_7 hwi SM c1124_0) hZ (hw _ (List.mem_of_getElem? (i := 57) rfl)) (hw _ (List.mem_of_getElem? (i := 54) rfl)) (by decide) (by decide)) (g := (mkF m 93 #[.val (.int u1), .val (.int u2), .val (.int u3), .val (.int u4), .val (.int u5), .val (.int wi), .val (.ref b1108), .val (.ref b1112), .val (.int n8), .val (.double dd1), .second, .val (.double dd2), .second, .val (.ref b1119), .unset, .unset, .unset, .unset] [.null, .null, (.ref b1119), (.int u1), (.ref b1123), (.ref b1123)])) rfl (by rw [hml]; rfl) (Steps.refl _) (a := b1123) (argsL := [(.int u1), (.ref b1119), .null, .null]) (rest := [(.ref b1123)]) (lenOf pd_8 rfl) rfl (by show 2 * 0 + _ ≤ _; exact Nat.le_of_eq rfl) (hb hby at_93) (fun _ _ => ⟨rfl, e1123, (by decide : 5 + 8 ≤ _), (by decide : 17 + 58 ≤ _)⟩)
  dsimp only [Pt.U, Pt.locs, Pt.cells, Pt.slots] at X1125 l1125 y1125 z1125 st1125 hQ1125
  subst l1125 y1125 z1125
  obtain ⟨ri, rc, rfl, N1125q, Ks, Es, Fnum, Fio, Fcpu, hri⟩ := hQ1125
  have N1125 := Fr.app N1121 N1125q
  have c1126_0 := c1124_0.keep Ks (allS g_b1123 all0)
  have c1126_1 := c1124_1.keep Ks
  have c1126_2 := c1124_2.keep Ks (ninS ne_b1112_b1123 nin0)
  have c1126_3 := c1124_3.keep Ks
  have c1126_4 := c1124_4.keep Ks (ninS ne_b1119_b1123 nin0)
  have c1126_5 := c1124_5.keep Ks (ninS ne_b1119_b1123 nin0)
  have c1126_6 := c1124_6.keep Ks (ninS ne_b1119_b1123 nin0)
  have c1126_7 := c1124_7.keep Ks (ninS ne_b1119_b1123 nin0)
  have Z1125 : n0 ≤ T1125.heap.size := Nat.le_trans Z1123 Ks.1
  have K1125 : Keep h0 T1125.heap [] := K1123.trans Ks (allS (Or.inr sz_b1123) all0)
  have P1127 : ∀ t, Steps p.tables e below (T1125.setTop (mkF m 98 #[.val (.int u1), .val (.int u2), .val (.int u3), .val (.int u4), .val (.int u5), .val (.int wi), .val (.ref b1108), .val (.ref b1112), .val (.int n8), .val (.double dd1), .second, .val (.double dd2), .second, .val (.ref b1119), .val (.ref b1123), .unset, .unset, .unset] [])) t → Steps p.tables e below (s₁.setTop (entryFrame m #[(.int u1), (.int u2), (.int u3), (.int u4), (.int u5)] maxLocals)) t := fun t k => P1118 t (by
    refine st1119 _ ?_
    show Steps p.tables e below (T1119.setTop (mkF m 68 #[.val (.int u1), .val (.int u2), .val (.int u3), .val (.int u4), .val (.int u5), .val (.int wi), .val (.ref b1108), .val (.ref b1112), .val (.int n8), .val (.double dd1), .second, .val (.double dd2), .second, .unset, .unset, .unset, .unset, .unset] [(.ref b1119)])) _
    refine XS.dup X1119.here hx rfl (hb hby at_68) rfl rfl ?_
    show Steps p.tables e below (T1119.setTop (mkF m 69 #[.val (.int u1), .val (.int u2), .val (.int u3), .val (.int u4), .val (.int u5), .val (.int wi), .val (.ref b1108), .val (.ref b1112), .val (.int n8), .val (.double dd1), .second, .val (.double dd2), .second, .unset, .unset, .unset, .unset, .unset] [(.ref b1119), (.ref b1119)])) _
    refine XS.aload X1119.here hx rfl (hb hby at_69) rfl rfl ?_
    show Steps p.tables e below (T1119.setTop (mkF m 71 #[.val (.int u1), .val (.int u2), .val (.int u3), .val (.int u4), .val (.int u5), .val (.int wi), .val (.ref b1108), .val (.ref b1112), .val (.int n8), .val (.double dd1), .second, .val (.double dd2), .second, .unset, .unset, .unset, .unset, .unset] [(.ref b1112), (.ref b1119), (.ref b1119)])) _
    refine XS.iload X1119.here hx rfl (hb hby at_71) rfl ?_
    show Steps p.tables e below (T1119.setTop (mkF m 73 #[.val (.int u1), .val (.int u2), .val (.int u3), .val (.int u4), .val (.int u5), .val (.int wi), .val (.ref b1108), .val (.ref b1112), .val (.int n8), .val (.double dd1), .second, .val (.double dd2), .second, .unset, .unset, .unset, .unset, .unset] [(.int n8), (.ref b1112), (.ref b1119), (.ref b1119)])) _
    refine XS.iload X1119.here hx rfl (hb hby at_73) rfl ?_
    show Steps p.tables e below (T1119.setTop (mkF m 75 #[.val (.int u1), .val (.int u2), .val (.int u3), .val (.int u4), .val (.int u5), .val (.int wi), .val (.ref b1108), .val (.ref b1112), .val (.int n8), .val (.double dd1), .second, .val (.double dd2), .second, .unset, .unset, .unset, .unset, .unset] [(.int wi), (.int n8), (.ref b1112), (.ref b1119), (.ref b1119)])) _
    refine XS.dload X1119.here hx rfl (hb hby at_75) rfl ?_
    show Steps p.tables e below (T1119.setTop (mkF m 77 #[.val (.int u1), .val (.int u2), .val (.int u3), .val (.int u4), .val (.int u5), .val (.int wi), .val (.ref b1108), .val (.ref b1112), .val (.int n8), .val (.double dd1), .second, .val (.double dd2), .second, .unset, .unset, .unset, .unset, .unset] [(.double dd1), (.int wi), (.int n8), (.ref b1112), (.ref b1119), (.ref b1119)])) _
    refine XS.dload X1119.here hx rfl (hb hby at_77) rfl ?_
    show Steps p.tables e below (T1119.setTop (mkF m 79 #[.val (.int u1), .val (.int u2), .val (.int u3), .val (.int u4), .val (.int u5), .val (.int wi), .val (.ref b1108), .val (.ref b1112), .val (.int n8), .val (.double dd1), .second, .val (.double dd2), .second, .unset, .unset, .unset, .unset, .unset] [(.double dd2), (.double dd1), (.int wi), (.int n8), (.ref b1112), (.ref b1119), (.ref b1119)])) _
    refine st1121.trans ?_
    show Steps p.tables e below (T1121.setTop (mkF m 82 #[.val (.int u1), .val (.int u2), .val (.int u3), .val (.int u4), .val (.int u5), .val (.int wi), .val (.ref b1108), .val (.ref b1112), .val (.int n8), .val (.double dd1), .second, .val (.double dd2), .second, .unset, .unset, .unset, .unset, .unset] [(.ref b1119)])) _
    refine XS.astore X1121.here hx rfl (hb hby at_82) rfl rfl (l' := #[.val (.int u1), .val (.int u2), .val (.int u3), .val (.int u4), .val (.int u5), .val (.int wi), .val (.ref b1108), .val (.ref b1112), .val (.int n8), .val (.double dd1), .second, .val (.double dd2), .second, .val (.ref b1119), .unset, .unset, .unset, .unset]) rfl ?_
    show Steps p.tables e below (T1121.setTop (mkF m 84 #[.val (.int u1), .val (.int u2), .val (.int u3), .val (.int u4), .val (.int u5), .val (.int wi), .val (.ref b1108), .val (.ref b1112), .val (.int n8), .val (.double dd1), .second, .val (.double dd2), .second, .val (.ref b1119), .unset, .unset, .unset, .unset] [])) _
    refine st1123 _ ?_
    show Steps p.tables e below (T1123.setTop (mkF m 87 #[.val (.int u1), .val (.int u2), .val (.int u3), .val (.int u4), .val (.int u5), .val (.int wi), .val (.ref b1108), .val (.ref b1112), .val (.int n8), .val (.double dd1), .second, .val (.double dd2), .second, .val (.ref b1119), .unset, .unset, .unset, .unset] [(.ref b1123)])) _
    refine XS.dup X1123.here hx rfl (hb hby at_87) rfl rfl ?_
    show Steps p.tables e below (T1123.setTop (mkF m 88 #[.val (.int u1), .val (.int u2), .val (.int u3), .val (.int u4), .val (.int u5), .val (.int wi), .val (.ref b1108), .val (.ref b1112), .val (.int n8), .val (.double dd1), .second, .val (.double dd2), .second, .val (.ref b1119), .unset, .unset, .unset, .unset] [(.ref b1123), (.ref b1123)])) _
    refine XS.iloadN X1123.here hx rfl (hb hby at_88) rfl ?_
    show Steps p.tables e below (T1123.setTop (mkF m 89 #[.val (.int u1), .val (.int u2), .val (.int u3), .val (.int u4), .val (.int u5), .val (.int wi), .val (.ref b1108), .val (.ref b1112), .val (.int n8), .val (.double dd1), .second, .val (.double dd2), .second, .val (.ref b1119), .unset, .unset, .unset, .unset] [(.int u1), (.ref b1123), (.ref b1123)])) _
    refine XS.aload X1123.here hx rfl (hb hby at_89) rfl rfl ?_
    show Steps p.tables e below (T1123.setTop (mkF m 91 #[.val (.int u1), .val (.int u2), .val (.int u3), .val (.int u4), .val (.int u5), .val (.int wi), .val (.ref b1108), .val (.ref b1112), .val (.int n8), .val (.double dd1), .second, .val (.double dd2), .second, .val (.ref b1119), .unset, .unset, .unset, .unset] [(.ref b1119), (.int u1), (.ref b1123), (.ref b1123)])) _
    refine XS.aconstNull X1123.here hx rfl (hb hby at_91) ?_
    show Steps p.tables e below (T1123.setTop (mkF m 92 #[.val (.int u1), .val (.int u2), .val (.int u3), .val (.int u4), .val (.int u5), .val (.int wi), .val (.ref b1108), .val (.ref b1112), .val (.int n8), .val (.double dd1), .second, .val (.double dd2), .second, .val (.ref b1119), .unset, .unset, .unset, .unset] [.null, (.ref b1119), (.int u1), (.ref b1123), (.ref b1123)])) _
    refine XS.aconstNull X1123.here hx rfl (hb hby at_92) ?_
    show Steps p.tables e below (T1123.setTop (mkF m 93 #[.val (.int u1), .val (.int u2), .val (.int u3), .val (.int u4), .val (.int u5), .val (.int wi), .val (.ref b1108), .val (.ref b1112), .val (.int n8), .val (.double dd1), .second, .val (.double dd2), .second, .val (.ref b1119), .unset, .unset, .unset, .unset] [.null, .null, (.ref b1119), (.int u1), (.ref b1123), (.ref b1123)])) _
    refine st1125.trans ?_
    show Steps p.tables e below (T1125.setTop (mkF m 96 #[.val (.int u1), .val (.int u2), .val (.int u3), .val (.int u4), .val (.int u5), .val (.int wi), .val (.ref b1108), .val (.ref b1112), .val (.int n8), .val (.double dd1), .second, .val (.double dd2), .second, .val (.ref b1119), .unset, .unset, .unset, .unset] [(.ref b1123)])) _
    refine XS.astore X1125.here hx rfl (hb hby at_96) rfl rfl (l' := #[.val (.int u1), .val (.int u2), .val (.int u3), .val (.int u4), .val (.int u5), .val (.int wi), .val (.ref b1108), .val (.ref b1112), .val (.int n8), .val (.double dd1), .second, .val (.double dd2), .second, .val (.ref b1119), .val (.ref b1123), .unset, .unset, .unset]) rfl ?_
    show Steps p.tables e below (T1125.setTop (mkF m 98 #[.val (.int u1), .val (.int u2), .val (.int u3), .val (.int u4), .val (.int u5), .val (.int wi), .val (.ref b1108), .val (.ref b1112), .val (.int n8), .val (.double dd1), .second, .val (.double dd2), .second, .val (.ref b1119), .val (.ref b1123), .unset, .unset, .unset] [])) _
    exact k)
  rcases hri with ⟨rfl, aio, rfl⟩ | ⟨rfl, rfl⟩
  · obtain ⟨cq1128, kq1128, q1128a, q1128b, q1128c⟩ := isOf hZ rfl Es
    obtain ⟨_, _, ⟨T1128, L1128, k1128, n1128⟩, -, X1128, ⟨Lc1128, hQ1128, l1128, y1128, z1128⟩, st1128⟩ := X1125.virtualBack hx (y := (⟨"com/example/quorumline/quorumline/sim/Site", "hasIo", "()Z"⟩ : MethodName)) (z := (⟨"com/example/quorumline/quorumline/sim/Site", "hasIo", "()Z"⟩ : MethodName)) hown (mvT hZ (hw _ (List.mem_of_getElem? (i := 137) rfl))) (mvT hZ (hw _ (List.mem_of_getElem? (i := 138) rfl))) (notFace_of_selects (args := #[]) (mvT hZ (hw _ (List.mem_of_getElem? (i := 140) rfl)))) (mvT hZ (hw _ (List.mem_of_getElem? (i := 140) rfl))) (mvT hZ (hw _ (List.mem_of_getElem? (i := 139) rfl))) (by decide) (backOf (W := 0) (rm_has1 l Z a0 hw [] b1123 aio T1125.heap n0 Z1125 Fio) hZ (hw _ (List.mem_of_getElem? (i := 141) rfl)) (hw _ (List.mem_of_getElem? (i := 54) rfl)) (by decide) (by decide)) q1128a q1128c (g := (mkF m 100 #[.val (.int u1), .val (.int u2), .val (.int u3), .val (.int u4), .val (.int u5), .val (.int (1 : Int32)), .val (.ref b1108), .val (.ref b1112), .val (.int n8), .val (.double dd1), .second, .val (.double dd2), .second, .val (.ref b1119), .val (.ref b1123), .unset, .unset, .unset] [(.ref b1123)])) rfl (by rw [hml]; rfl) (Steps.refl _) (argsL := []) (rest := []) (lenOf pd_4 rfl) rfl (by show 2 * 0 + _ ≤ _; exact Nat.le_of_eq rfl) (hb hby at_100) (fun _ _ => ⟨rfl, rfl, (by decide : 13 + 0 ≤ _), (by decide : 75 + 0 ≤ _)⟩)
    dsimp only [Pt.U, Pt.locs, Pt.cells, Pt.slots] at X1128 l1128 y1128 z1128 st1128 hQ1128
    subst l1128 y1128 z1128
    obtain ⟨rfl, N1128q, e100⟩ := hQ1128
    have N1128 := Fr.app N1125 N1128q
    obtain ⟨cq1129, kq1129, q1129a, q1129b, q1129c⟩ := isOf hZ e100 Es
    obtain ⟨_, _, ⟨T1129, L1129, k1129, n1129⟩, -, X1129, ⟨Lc1129, hQ1129, l1129, y1129, z1129⟩, st1129⟩ := X1128.virtualBack hx (y := (⟨"com/example/quorumline/quorumline/sim/Site", "io", "()Lcom/example/quorumline/quorumline/sim/Server;"⟩ : MethodName)) (z := (⟨"com/example/quorumline/quorumline/sim/Site", "io", "()Lcom/example/quorumline/quorumline/sim/Server;"⟩ : MethodName)) hown (mvT hZ (hw _ (List.mem_of_getElem? (i := 142) rfl))) (mvT hZ (hw _ (List.mem_of_getElem? (i := 143) rfl))) (notFace_of_selects (args := #[]) (mvT hZ (hw _ (List.mem_of_getElem? (i := 145) rfl)))) (mvT hZ (hw _ (List.mem_of_getElem? (i := 145) rfl))) (mvT hZ (hw _ (List.mem_of_getElem? (i := 144) rfl))) (by decide) (backOf (W := 0) (rm_io1 l Z a0 hw [] b1123 aio T1125.heap n0 Z1125 Fio) hZ (hw _ (List.mem_of_getElem? (i := 146) rfl)) (hw _ (List.mem_of_getElem? (i := 54) rfl)) (by decide) (by decide)) q1129a q1129c (g := (mkF m 107 #[.val (.int u1), .val (.int u2), .val (.int u3), .val (.int u4), .val (.int u5), .val (.int (1 : Int32)), .val (.ref b1108), .val (.ref b1112), .val (.int n8), .val (.double dd1), .second, .val (.double dd2), .second, .val (.ref b1119), .val (.ref b1123), .val (.int (1 : Int32)), .unset, .unset] [(.ref b1123)])) rfl (by rw [hml]; rfl) (Steps.refl _) (argsL := []) (rest := []) (lenOf pd_9 rfl) rfl (by show 2 * 0 + _ ≤ _; exact Nat.le_of_eq rfl) (hb hby at_107) (fun _ _ => ⟨rfl, e100, (by decide : 13 + 0 ≤ _), (by decide : 75 + 0 ≤ _)⟩)
    dsimp only [Pt.U, Pt.locs, Pt.cells, Pt.slots] at X1129 l1129 y1129 z1129 st1129 hQ1129
    subst l1129 y1129 z1129
    obtain ⟨rfl, N1129q, e107⟩ := hQ1129
    have N1129 := Fr.app N1128 N1129q
    obtain ⟨cq1130, kq1130, q1130a, q1130b, q1130c⟩ := isOf hZ e107 Es
    obtain ⟨_, _, ⟨T1130, L1130, k1130, n1130⟩, -, X1130, ⟨Lc1130, hQ1130, l1130, y1130, z1130⟩, st1130⟩ := X1129.virtualBack hx (y := (⟨"com/example/quorumline/quorumline/sim/Site", "cpu", "()Lcom/example/quorumline/quorumline/sim/Server;"⟩ : MethodName)) (z := (⟨"com/example/quorumline/quorumline/sim/Site", "cpu", "()Lcom/example/quorumline/quorumline/sim/Server;"⟩ : MethodName)) hown (mvT hZ (hw _ (List.mem_of_getElem? (i := 147) rfl))) (mvT hZ (hw _ (List.mem_of_getElem? (i := 148) rfl))) (notFace_of_selects (args := #[]) (mvT hZ (hw _ (List.mem_of_getElem? (i := 150) rfl)))) (mvT hZ (hw _ (List.mem_of_getElem? (i := 150) rfl))) (mvT hZ (hw _ (List.mem_of_getElem? (i := 149) rfl))) (by decide) (backOf (W := 0) (rm_cpu l Z a0 hw [] b1123 rc T1125.heap n0 Z1125 Fcpu) hZ (hw _ (List.mem_of_getElem? (i := 151) rfl)) (hw _ (List.mem_of_getElem? (i := 54) rfl)) (by decide) (by decide)) q1130a q1130c (g := (mkF m 122 #[.val (.int u1), .val (.int u2), .val (.int u3), .val (.int u4), .val (.int u5), .val (.int (1 : Int32)), .val (.ref b1108), .val (.ref b1112), .val (.int n8), .val (.double dd1), .second, .val (.double dd2), .second, .val (.ref b1119), .val (.ref b1123), .val (.int (1 : Int32)), .val (.int (1 : Int32)), .unset] [(.ref b1123)])) rfl (by rw [hml]; rfl) (Steps.refl _) (argsL := []) (rest := []) (lenOf pd_9 rfl) rfl (by show 2 * 0 + _ ≤ _; exact Nat.le_of_eq rfl) (hb hby at_122) (fun _ _ => ⟨rfl, e107, (by decide : 13 + 0 ≤ _), (by decide : 75 + 0 ≤ _)⟩)
    dsimp only [Pt.U, Pt.locs, Pt.cells, Pt.slots] at X1130 l1130 y1130 z1130 st1130 hQ1130
    subst l1130 y1130 z1130
    obtain ⟨rfl, N1130q, e122⟩ := hQ1130
    have N1130 := Fr.app N1129 N1130q
    obtain ⟨cq1131, kq1131, q1131a, q1131b, q1131c⟩ := isOf hZ e122 Es
    obtain ⟨_, _, ⟨T1131, L1131, k1131, n1131⟩, -, X1131, ⟨Lc1131, hQ1131, l1131, y1131, z1131⟩, st1131⟩ := X1130.virtualBack hx (y := (⟨"com/example/quorumline/quorumline/sim/Site", "number", "()I"⟩ : MethodName)) (z := (⟨"com/example/quorumline/quorumline/sim/Site", "number", "()I"⟩ : MethodName)) hown (mvT hZ (hw _ (List.mem_of_getElem? (i := 152) rfl))) (mvT hZ (hw _ (List.mem_of_getElem? (i := 153) rfl))) (notFace_of_selects (args := #[]) (mvT hZ (hw _ (List.mem_of_getElem? (i := 155) rfl)))) (mvT hZ (hw _ (List.mem_of_getElem? (i := 155) rfl))) (mvT hZ (hw _ (List.mem_of_getElem? (i := 154) rfl))) (by decide) (backOf (W := 0) (rm_nmb l Z a0 hw [] b1123 u1 T1125.heap n0 Z1125 Fnum) hZ (hw _ (List.mem_of_getElem? (i := 156) rfl)) (hw _ (List.mem_of_getElem? (i := 54) rfl)) (by decide) (by decide)) q1131a q1131c (g := (mkF m 156 #[.val (.int u1), .val (.int u2), .val (.int u3), .val (.int u4), .val (.int u5), .val (.int (1 : Int32)), .val (.ref b1108), .val (.ref b1112), .val (.int n8), .val (.double dd1), .second, .val (.double dd2), .second, .val (.ref b1119), .val (.ref b1123), .val (.int (1 : Int32)), .val (.int (1 : Int32)), .val (.int (1 : Int32))] [(.ref b1123)])) rfl (by rw [hml]; rfl) (Steps.refl _) (argsL := []) (rest := []) (lenOf pd_10 rfl) rfl (by show 2 * 0 + _ ≤ _; exact Nat.le_of_eq rfl) (hb hby at_156) (fun _ _ => ⟨rfl, e122, (by decide : 13 + 0 ≤ _), (by decide : 75 + 0 ≤ _)⟩)
    dsimp only [Pt.U, Pt.locs, Pt.cells, Pt.slots] at X1131 l1131 y1131 z1131 st1131 hQ1131
    subst l1131 y1131 z1131
    obtain ⟨rfl, N1131q, e156⟩ := hQ1131
    have N1131 := Fr.app N1130 N1131q
    have P1132 : ∀ t, Steps p.tables e below (T1131.setTop (mkF m 168 #[.val (.int u1), .val (.int u2), .val (.int u3), .val (.int u4), .val (.int u5), .val (.int (1 : Int32)), .val (.ref b1108), .val (.ref b1112), .val (.int n8), .val (.double dd1), .second, .val (.double dd2), .second, .val (.ref b1119), .val (.ref b1123), .val (.int (1 : Int32)), .val (.int (1 : Int32)), .val (.int (1 : Int32))] [(.int (1 : Int32))])) t → Steps p.tables e below (s₁.setTop (entryFrame m #[(.int u1), (.int u2), (.int u3), (.int u4), (.int u5)] maxLocals)) t := fun t k => P1127 t (by
      refine XS.aload X1125.here hx rfl (hb hby at_98) rfl rfl ?_
      show Steps p.tables e below (T1125.setTop (mkF m 100 #[.val (.int u1), .val (.int u2), .val (.int u3), .val (.int u4), .val (.int u5), .val (.int (1 : Int32)), .val (.ref b1108), .val (.ref b1112), .val (.int n8), .val (.double dd1), .second, .val (.double dd2), .second, .val (.ref b1119), .val (.ref b1123), .unset, .unset, .unset] [(.ref b1123)])) _
      refine st1128.trans ?_
      show Steps p.tables e below (T1128.setTop (mkF m 103 #[.val (.int u1), .val (.int u2), .val (.int u3), .val (.int u4), .val (.int u5), .val (.int (1 : Int32)), .val (.ref b1108), .val (.ref b1112), .val (.int n8), .val (.double dd1), .second, .val (.double dd2), .second, .val (.ref b1119), .val (.ref b1123), .unset, .unset, .unset] [(.int (1 : Int32))])) _
      refine XS.istore X1128.here hx rfl (hb hby at_103) rfl (l' := #[.val (.int u1), .val (.int u2), .val (.int u3), .val (.int u4), .val (.int u5), .val (.int (1 : Int32)), .val (.ref b1108), .val (.ref b1112), .val (.int n8), .val (.double dd1), .second, .val (.double dd2), .second, .val (.ref b1119), .val (.ref b1123), .val (.int (1 : Int32)), .unset, .unset]) rfl ?_
      show Steps p.tables e below (T1128.setTop (mkF m 105 #[.val (.int u1), .val (.int u2), .val (.int u3), .val (.int u4), .val (.int u5), .val (.int (1 : Int32)), .val (.ref b1108), .val (.ref b1112), .val (.int n8), .val (.double dd1), .second, .val (.double dd2), .second, .val (.ref b1119), .val (.ref b1123), .val (.int (1 : Int32)), .unset, .unset] [])) _
      refine XS.aload X1128.here hx rfl (hb hby at_105) rfl rfl ?_
      show Steps p.tables e below (T1128.setTop (mkF m 107 #[.val (.int u1), .val (.int u2), .val (.int u3), .val (.int u4), .val (.int u5), .val (.int (1 : Int32)), .val (.ref b1108), .val (.ref b1112), .val (.int n8), .val (.double dd1), .second, .val (.double dd2), .second, .val (.ref b1119), .val (.ref b1123), .val (.int (1 : Int32)), .unset, .unset] [(.ref b1123)])) _
      refine st1129.trans ?_
      show Steps p.tables e below (T1129.setTop (mkF m 110 #[.val (.int u1), .val (.int u2), .val (.int u3), .val (.int u4), .val (.int u5), .val (.int (1 : Int32)), .val (.ref b1108), .val (.ref b1112), .val (.int n8), .val (.double dd1), .second, .val (.double dd2), .second, .val (.ref b1119), .val (.ref b1123), .val (.int (1 : Int32)), .unset, .unset] [(.ref aio)])) _
      refine XS.ifnullNo X1129.here hx rfl (hb hby at_110) rfl ?_
      show Steps p.tables e below (T1129.setTop (mkF m 113 #[.val (.int u1), .val (.int u2), .val (.int u3), .val (.int u4), .val (.int u5), .val (.int (1 : Int32)), .val (.ref b1108), .val (.ref b1112), .val (.int n8), .val (.double dd1), .second, .val (.double dd2), .second, .val (.ref b1119), .val (.ref b1123), .val (.int (1 : Int32)), .unset, .unset] [])) _
      refine XS.iconst X1129.here hx rfl (hb hby at_113) ?_
      show Steps p.tables e below (T1129.setTop (mkF m 114 #[.val (.int u1), .val (.int u2), .val (.int u3), .val (.int u4), .val (.int u5), .val (.int (1 : Int32)), .val (.ref b1108), .val (.ref b1112), .val (.int n8), .val (.double dd1), .second, .val (.double dd2), .second, .val (.ref b1119), .val (.ref b1123), .val (.int (1 : Int32)), .unset, .unset] [(.int (1 : Int32))])) _
      refine XS.goto X1129.here hx rfl (pc0 := 114) (pc' := 118) rfl (hb hby at_114) (by decide) (by decide) ?_
      show Steps p.tables e below (T1129.setTop (mkF m 118 #[.val (.int u1), .val (.int u2), .val (.int u3), .val (.int u4), .val (.int u5), .val (.int (1 : Int32)), .val (.ref b1108), .val (.ref b1112), .val (.int n8), .val (.double dd1), .second, .val (.double dd2), .second, .val (.ref b1119), .val (.ref b1123), .val (.int (1 : Int32)), .unset, .unset] [(.int (1 : Int32))])) _
      refine XS.istore X1129.here hx rfl (hb hby at_118) rfl (l' := #[.val (.int u1), .val (.int u2), .val (.int u3), .val (.int u4), .val (.int u5), .val (.int (1 : Int32)), .val (.ref b1108), .val (.ref b1112), .val (.int n8), .val (.double dd1), .second, .val (.double dd2), .second, .val (.ref b1119), .val (.ref b1123), .val (.int (1 : Int32)), .val (.int (1 : Int32)), .unset]) rfl ?_
      show Steps p.tables e below (T1129.setTop (mkF m 120 #[.val (.int u1), .val (.int u2), .val (.int u3), .val (.int u4), .val (.int u5), .val (.int (1 : Int32)), .val (.ref b1108), .val (.ref b1112), .val (.int n8), .val (.double dd1), .second, .val (.double dd2), .second, .val (.ref b1119), .val (.ref b1123), .val (.int (1 : Int32)), .val (.int (1 : Int32)), .unset] [])) _
      refine XS.aload X1129.here hx rfl (hb hby at_120) rfl rfl ?_
      show Steps p.tables e below (T1129.setTop (mkF m 122 #[.val (.int u1), .val (.int u2), .val (.int u3), .val (.int u4), .val (.int u5), .val (.int (1 : Int32)), .val (.ref b1108), .val (.ref b1112), .val (.int n8), .val (.double dd1), .second, .val (.double dd2), .second, .val (.ref b1119), .val (.ref b1123), .val (.int (1 : Int32)), .val (.int (1 : Int32)), .unset] [(.ref b1123)])) _
      refine st1130.trans ?_
      show Steps p.tables e below (T1130.setTop (mkF m 125 #[.val (.int u1), .val (.int u2), .val (.int u3), .val (.int u4), .val (.int u5), .val (.int (1 : Int32)), .val (.ref b1108), .val (.ref b1112), .val (.int n8), .val (.double dd1), .second, .val (.double dd2), .second, .val (.ref b1119), .val (.ref b1123), .val (.int (1 : Int32)), .val (.int (1 : Int32)), .unset] [(.ref rc)])) _
      refine XS.ifnullNo X1130.here hx rfl (hb hby at_125) rfl ?_
      show Steps p.tables e below (T1130.setTop (mkF m 128 #[.val (.int u1), .val (.int u2), .val (.int u3), .val (.int u4), .val (.int u5), .val (.int (1 : Int32)), .val (.ref b1108), .val (.ref b1112), .val (.int n8), .val (.double dd1), .second, .val (.double dd2), .second, .val (.ref b1119), .val (.ref b1123), .val (.int (1 : Int32)), .val (.int (1 : Int32)), .unset] [])) _
      refine XS.iconst X1130.here hx rfl (hb hby at_128) ?_
      show Steps p.tables e below (T1130.setTop (mkF m 129 #[.val (.int u1), .val (.int u2), .val (.int u3), .val (.int u4), .val (.int u5), .val (.int (1 : Int32)), .val (.ref b1108), .val (.ref b1112), .val (.int n8), .val (.double dd1), .second, .val (.double dd2), .second, .val (.ref b1119), .val (.ref b1123), .val (.int (1 : Int32)), .val (.int (1 : Int32)), .unset] [(.int (1 : Int32))])) _
      refine XS.goto X1130.here hx rfl (pc0 := 129) (pc' := 133) rfl (hb hby at_129) (by decide) (by decide) ?_
      show Steps p.tables e below (T1130.setTop (mkF m 133 #[.val (.int u1), .val (.int u2), .val (.int u3), .val (.int u4), .val (.int u5), .val (.int (1 : Int32)), .val (.ref b1108), .val (.ref b1112), .val (.int n8), .val (.double dd1), .second, .val (.double dd2), .second, .val (.ref b1119), .val (.ref b1123), .val (.int (1 : Int32)), .val (.int (1 : Int32)), .unset] [(.int (1 : Int32))])) _
      refine XS.istore X1130.here hx rfl (hb hby at_133) rfl (l' := #[.val (.int u1), .val (.int u2), .val (.int u3), .val (.int u4), .val (.int u5), .val (.int (1 : Int32)), .val (.ref b1108), .val (.ref b1112), .val (.int n8), .val (.double dd1), .second, .val (.double dd2), .second, .val (.ref b1119), .val (.ref b1123), .val (.int (1 : Int32)), .val (.int (1 : Int32)), .val (.int (1 : Int32))]) rfl ?_
      show Steps p.tables e below (T1130.setTop (mkF m 135 #[.val (.int u1), .val (.int u2), .val (.int u3), .val (.int u4), .val (.int u5), .val (.int (1 : Int32)), .val (.ref b1108), .val (.ref b1112), .val (.int n8), .val (.double dd1), .second, .val (.double dd2), .second, .val (.ref b1119), .val (.ref b1123), .val (.int (1 : Int32)), .val (.int (1 : Int32)), .val (.int (1 : Int32))] [])) _
      refine XS.iload X1130.here hx rfl (hb hby at_135) rfl ?_
      show Steps p.tables e below (T1130.setTop (mkF m 137 #[.val (.int u1), .val (.int u2), .val (.int u3), .val (.int u4), .val (.int u5), .val (.int (1 : Int32)), .val (.ref b1108), .val (.ref b1112), .val (.int n8), .val (.double dd1), .second, .val (.double dd2), .second, .val (.ref b1119), .val (.ref b1123), .val (.int (1 : Int32)), .val (.int (1 : Int32)), .val (.int (1 : Int32))] [(.int (1 : Int32))])) _
      refine XS.iload X1130.here hx rfl (hb hby at_137) rfl ?_
      show Steps p.tables e below (T1130.setTop (mkF m 139 #[.val (.int u1), .val (.int u2), .val (.int u3), .val (.int u4), .val (.int u5), .val (.int (1 : Int32)), .val (.ref b1108), .val (.ref b1112), .val (.int n8), .val (.double dd1), .second, .val (.double dd2), .second, .val (.ref b1119), .val (.ref b1123), .val (.int (1 : Int32)), .val (.int (1 : Int32)), .val (.int (1 : Int32))] [(.int (1 : Int32)), (.int (1 : Int32))])) _
      refine XS.icmpNo X1130.here hx rfl (hb hby at_139) rfl (teq rfl).2 ?_
      show Steps p.tables e below (T1130.setTop (mkF m 142 #[.val (.int u1), .val (.int u2), .val (.int u3), .val (.int u4), .val (.int u5), .val (.int (1 : Int32)), .val (.ref b1108), .val (.ref b1112), .val (.int n8), .val (.double dd1), .second, .val (.double dd2), .second, .val (.ref b1119), .val (.ref b1123), .val (.int (1 : Int32)), .val (.int (1 : Int32)), .val (.int (1 : Int32))] [])) _
      refine XS.iload X1130.here hx rfl (hb hby at_142) rfl ?_
      show Steps p.tables e below (T1130.setTop (mkF m 144 #[.val (.int u1), .val (.int u2), .val (.int u3), .val (.int u4), .val (.int u5), .val (.int (1 : Int32)), .val (.ref b1108), .val (.ref b1112), .val (.int n8), .val (.double dd1), .second, .val (.double dd2), .second, .val (.ref b1119), .val (.ref b1123), .val (.int (1 : Int32)), .val (.int (1 : Int32)), .val (.int (1 : Int32))] [(.int (1 : Int32))])) _
      refine XS.iload X1130.here hx rfl (hb hby at_144) rfl ?_
      show Steps p.tables e below (T1130.setTop (mkF m 146 #[.val (.int u1), .val (.int u2), .val (.int u3), .val (.int u4), .val (.int u5), .val (.int (1 : Int32)), .val (.ref b1108), .val (.ref b1112), .val (.int n8), .val (.double dd1), .second, .val (.double dd2), .second, .val (.ref b1119), .val (.ref b1123), .val (.int (1 : Int32)), .val (.int (1 : Int32)), .val (.int (1 : Int32))] [(.int (1 : Int32)), (.int (1 : Int32))])) _
      refine XS.icmpNo X1130.here hx rfl (hb hby at_146) rfl (teq rfl).2 ?_
      show Steps p.tables e below (T1130.setTop (mkF m 149 #[.val (.int u1), .val (.int u2), .val (.int u3), .val (.int u4), .val (.int u5), .val (.int (1 : Int32)), .val (.ref b1108), .val (.ref b1112), .val (.int n8), .val (.double dd1), .second, .val (.double dd2), .second, .val (.ref b1119), .val (.ref b1123), .val (.int (1 : Int32)), .val (.int (1 : Int32)), .val (.int (1 : Int32))] [])) _
      refine XS.iload X1130.here hx rfl (hb hby at_149) rfl ?_
      show Steps p.tables e below (T1130.setTop (mkF m 151 #[.val (.int u1), .val (.int u2), .val (.int u3), .val (.int u4), .val (.int u5), .val (.int (1 : Int32)), .val (.ref b1108), .val (.ref b1112), .val (.int n8), .val (.double dd1), .second, .val (.double dd2), .second, .val (.ref b1119), .val (.ref b1123), .val (.int (1 : Int32)), .val (.int (1 : Int32)), .val (.int (1 : Int32))] [(.int (1 : Int32))])) _
      refine XS.ifNo X1130.here hx rfl (hb hby at_151) rfl ((if0 _ _).trans (feq (by decide)).1) ?_
      show Steps p.tables e below (T1130.setTop (mkF m 154 #[.val (.int u1), .val (.int u2), .val (.int u3), .val (.int u4), .val (.int u5), .val (.int (1 : Int32)), .val (.ref b1108), .val (.ref b1112), .val (.int n8), .val (.double dd1), .second, .val (.double dd2), .second, .val (.ref b1119), .val (.ref b1123), .val (.int (1 : Int32)), .val (.int (1 : Int32)), .val (.int (1 : Int32))] [])) _
      refine XS.aload X1130.here hx rfl (hb hby at_154) rfl rfl ?_
      show Steps p.tables e below (T1130.setTop (mkF m 156 #[.val (.int u1), .val (.int u2), .val (.int u3), .val (.int u4), .val (.int u5), .val (.int (1 : Int32)), .val (.ref b1108), .val (.ref b1112), .val (.int n8), .val (.double dd1), .second, .val (.double dd2), .second, .val (.ref b1119), .val (.ref b1123), .val (.int (1 : Int32)), .val (.int (1 : Int32)), .val (.int (1 : Int32))] [(.ref b1123)])) _
      refine st1131.trans ?_
      show Steps p.tables e below (T1131.setTop (mkF m 159 #[.val (.int u1), .val (.int u2), .val (.int u3), .val (.int u4), .val (.int u5), .val (.int (1 : Int32)), .val (.ref b1108), .val (.ref b1112), .val (.int n8), .val (.double dd1), .second, .val (.double dd2), .second, .val (.ref b1119), .val (.ref b1123), .val (.int (1 : Int32)), .val (.int (1 : Int32)), .val (.int (1 : Int32))] [(.int u1)])) _
      refine XS.iloadN X1131.here hx rfl (hb hby at_159) rfl ?_
      show Steps p.tables e below (T1131.setTop (mkF m 160 #[.val (.int u1), .val (.int u2), .val (.int u3), .val (.int u4), .val (.int u5), .val (.int (1 : Int32)), .val (.ref b1108), .val (.ref b1112), .val (.int n8), .val (.double dd1), .second, .val (.double dd2), .second, .val (.ref b1119), .val (.ref b1123), .val (.int (1 : Int32)), .val (.int (1 : Int32)), .val (.int (1 : Int32))] [(.int u1), (.int u1)])) _
      refine XS.icmpNo X1131.here hx rfl (hb hby at_160) rfl (teq rfl).2 ?_
      show Steps p.tables e below (T1131.setTop (mkF m 163 #[.val (.int u1), .val (.int u2), .val (.int u3), .val (.int u4), .val (.int u5), .val (.int (1 : Int32)), .val (.ref b1108), .val (.ref b1112), .val (.int n8), .val (.double dd1), .second, .val (.double dd2), .second, .val (.ref b1119), .val (.ref b1123), .val (.int (1 : Int32)), .val (.int (1 : Int32)), .val (.int (1 : Int32))] [])) _
      refine XS.iconst X1131.here hx rfl (hb hby at_163) ?_
      show Steps p.tables e below (T1131.setTop (mkF m 164 #[.val (.int u1), .val (.int u2), .val (.int u3), .val (.int u4), .val (.int u5), .val (.int (1 : Int32)), .val (.ref b1108), .val (.ref b1112), .val (.int n8), .val (.double dd1), .second, .val (.double dd2), .second, .val (.ref b1119), .val (.ref b1123), .val (.int (1 : Int32)), .val (.int (1 : Int32)), .val (.int (1 : Int32))] [(.int (1 : Int32))])) _
      refine XS.goto X1131.here hx rfl (pc0 := 164) (pc' := 168) rfl (hb hby at_164) (by decide) (by decide) ?_
      show Steps p.tables e below (T1131.setTop (mkF m 168 #[.val (.int u1), .val (.int u2), .val (.int u3), .val (.int u4), .val (.int u5), .val (.int (1 : Int32)), .val (.ref b1108), .val (.ref b1112), .val (.int n8), .val (.double dd1), .second, .val (.double dd2), .second, .val (.ref b1119), .val (.ref b1123), .val (.int (1 : Int32)), .val (.int (1 : Int32)), .val (.int (1 : Int32))] [(.int (1 : Int32))])) _
      exact k)
    obtain ⟨fs, hr, hrun, hended, hW, hsame⟩ := X1131.leave (v := some (.int (1 : Int32))) (fun h => by rw [Bd.returns] at h; cases h)
    refine ⟨_, _, P1132 _ ?_, hrun, hended, _, _, rfl, ?_, ⟨_, rfl⟩, hW, hsame.mono (by decide) (by decide)⟩
    · exact retN X1131 hx (t := .boolean) Bd.returns (by simp) (hb hby at_168) hr
    · show Q_law Z u1 u2 u3 u4 u5 ms cz h0 n0 _ T1131.heap _
      rw [e156]
      exact ⟨rfl, N1131⟩
  · obtain ⟨cq1133, kq1133, q1133a, q1133b, q1133c⟩ := isOf hZ rfl Es
    obtain ⟨_, _, ⟨T1133, L1133, k1133, n1133⟩, -, X1133, ⟨Lc1133, hQ1133, l1133, y1133, z1133⟩, st1133⟩ := X1125.virtualBack hx (y := (⟨"com/example/quorumline/quorumline/sim/Site", "hasIo", "()Z"⟩ : MethodName)) (z := (⟨"com/example/quorumline/quorumline/sim/Site", "hasIo", "()Z"⟩ : MethodName)) hown (mvT hZ (hw _ (List.mem_of_getElem? (i := 137) rfl))) (mvT hZ (hw _ (List.mem_of_getElem? (i := 138) rfl))) (notFace_of_selects (args := #[]) (mvT hZ (hw _ (List.mem_of_getElem? (i := 140) rfl)))) (mvT hZ (hw _ (List.mem_of_getElem? (i := 140) rfl))) (mvT hZ (hw _ (List.mem_of_getElem? (i := 139) rfl))) (by decide) (backOf (W := 0) (rm_has0 l Z a0 hw [] b1123 T1125.heap n0 Z1125 Fio) hZ (hw _ (List.mem_of_getElem? (i := 141) rfl)) (hw _ (List.mem_of_getElem? (i := 54) rfl)) (by decide) (by decide)) q1133a q1133c (g := (mkF m 100 #[.val (.int u1), .val (.int u2), .val (.int u3), .val (.int u4), .val (.int u5), .val (.int (0 : Int32)), .val (.ref b1108), .val (.ref b1112), .val (.int n8), .val (.double dd1), .second, .val (.double dd2), .second, .val (.ref b1119), .val (.ref b1123), .unset, .unset, .unset] [(.ref b1123)])) rfl (by rw [hml]; rfl) (Steps.refl _) (argsL := []) (rest := []) (lenOf pd_4 rfl) rfl (by show 2 * 0 + _ ≤ _; exact Nat.le_of_eq rfl) (hb hby at_100) (fun _ _ => ⟨rfl, rfl, (by decide : 13 + 0 ≤ _), (by decide : 75 + 0 ≤ _)⟩)
    dsimp only [Pt.U, Pt.locs, Pt.cells, Pt.slots] at X1133 l1133 y1133 z1133 st1133 hQ1133
    subst l1133 y1133 z1133
    obtain ⟨rfl, N1133q, e100⟩ := hQ1133
    have N1133 := Fr.app N1125 N1133q
    obtain ⟨cq1134, kq1134, q1134a, q1134b, q1134c⟩ := isOf hZ e100 Es
    obtain ⟨_, _, ⟨T1134, L1134, k1134, n1134⟩, -, X1134, ⟨Lc1134, hQ1134, l1134, y1134, z1134⟩, st1134⟩ := X1133.virtualBack hx (y := (⟨"com/example/quorumline/quorumline/sim/Site", "io", "()Lcom/example/quorumline/quorumline/sim/Server;"⟩ : MethodName)) (z := (⟨"com/example/quorumline/quorumline/sim/Site", "io", "()Lcom/example/quorumline/quorumline/sim/Server;"⟩ : MethodName)) hown (mvT hZ (hw _ (List.mem_of_getElem? (i := 142) rfl))) (mvT hZ (hw _ (List.mem_of_getElem? (i := 143) rfl))) (notFace_of_selects (args := #[]) (mvT hZ (hw _ (List.mem_of_getElem? (i := 145) rfl)))) (mvT hZ (hw _ (List.mem_of_getElem? (i := 145) rfl))) (mvT hZ (hw _ (List.mem_of_getElem? (i := 144) rfl))) (by decide) (backOf (W := 0) (rm_io0 l Z a0 hw [] b1123 T1125.heap n0 Z1125 Fio) hZ (hw _ (List.mem_of_getElem? (i := 146) rfl)) (hw _ (List.mem_of_getElem? (i := 54) rfl)) (by decide) (by decide)) q1134a q1134c (g := (mkF m 107 #[.val (.int u1), .val (.int u2), .val (.int u3), .val (.int u4), .val (.int u5), .val (.int (0 : Int32)), .val (.ref b1108), .val (.ref b1112), .val (.int n8), .val (.double dd1), .second, .val (.double dd2), .second, .val (.ref b1119), .val (.ref b1123), .val (.int (0 : Int32)), .unset, .unset] [(.ref b1123)])) rfl (by rw [hml]; rfl) (Steps.refl _) (argsL := []) (rest := []) (lenOf pd_9 rfl) rfl (by show 2 * 0 + _ ≤ _; exact Nat.le_of_eq rfl) (hb hby at_107) (fun _ _ => ⟨rfl, e100, (by decide : 13 + 0 ≤ _), (by decide : 75 + 0 ≤ _)⟩)
    dsimp only [Pt.U, Pt.locs, Pt.cells, Pt.slots] at X1134 l1134 y1134 z1134 st1134 hQ1134
    subst l1134 y1134 z1134
    obtain ⟨rfl, N1134q, e107⟩ := hQ1134
    have N1134 := Fr.app N1133 N1134q
    obtain ⟨cq1135, kq1135, q1135a, q1135b, q1135c⟩ := isOf hZ e107 Es
    obtain ⟨_, _, ⟨T1135, L1135, k1135, n1135⟩, -, X1135, ⟨Lc1135, hQ1135, l1135, y1135, z1135⟩, st1135⟩ := X1134.virtualBack hx (y := (⟨"com/example/quorumline/quorumline/sim/Site", "cpu", "()Lcom/example/quorumline/quorumline/sim/Server;"⟩ : MethodName)) (z := (⟨"com/example/quorumline/quorumline/sim/Site", "cpu", "()Lcom/example/quorumline/quorumline/sim/Server;"⟩ : MethodName)) hown (mvT hZ (hw _ (List.mem_of_getElem? (i := 147) rfl))) (mvT hZ (hw _ (List.mem_of_getElem? (i := 148) rfl))) (notFace_of_selects (args := #[]) (mvT hZ (hw _ (List.mem_of_getElem? (i := 150) rfl)))) (mvT hZ (hw _ (List.mem_of_getElem? (i := 150) rfl))) (mvT hZ (hw _ (List.mem_of_getElem? (i := 149) rfl))) (by decide) (backOf (W := 0) (rm_cpu l Z a0 hw [] b1123 rc T1125.heap n0 Z1125 Fcpu) hZ (hw _ (List.mem_of_getElem? (i := 151) rfl)) (hw _ (List.mem_of_getElem? (i := 54) rfl)) (by decide) (by decide)) q1135a q1135c (g := (mkF m 122 #[.val (.int u1), .val (.int u2), .val (.int u3), .val (.int u4), .val (.int u5), .val (.int (0 : Int32)), .val (.ref b1108), .val (.ref b1112), .val (.int n8), .val (.double dd1), .second, .val (.double dd2), .second, .val (.ref b1119), .val (.ref b1123), .val (.int (0 : Int32)), .val (.int (0 : Int32)), .unset] [(.ref b1123)])) rfl (by rw [hml]; rfl) (Steps.refl _) (argsL := []) (rest := []) (lenOf pd_9 rfl) rfl (by show 2 * 0 + _ ≤ _; exact Nat.le_of_eq rfl) (hb hby at_122) (fun _ _ => ⟨rfl, e107, (by decide : 13 + 0 ≤ _), (by decide : 75 + 0 ≤ _)⟩)
    dsimp only [Pt.U, Pt.locs, Pt.cells, Pt.slots] at X1135 l1135 y1135 z1135 st1135 hQ1135
    subst l1135 y1135 z1135
    obtain ⟨rfl, N1135q, e122⟩ := hQ1135
    have N1135 := Fr.app N1134 N1135q
    obtain ⟨cq1136, kq1136, q1136a, q1136b, q1136c⟩ := isOf hZ e122 Es
    obtain ⟨_, _, ⟨T1136, L1136, k1136, n1136⟩, -, X1136, ⟨Lc1136, hQ1136, l1136, y1136, z1136⟩, st1136⟩ := X1135.virtualBack hx (y := (⟨"com/example/quorumline/quorumline/sim/Site", "number", "()I"⟩ : MethodName)) (z := (⟨"com/example/quorumline/quorumline/sim/Site", "number", "()I"⟩ : MethodName)) hown (mvT hZ (hw _ (List.mem_of_getElem? (i := 152) rfl))) (mvT hZ (hw _ (List.mem_of_getElem? (i := 153) rfl))) (notFace_of_selects (args := #[]) (mvT hZ (hw _ (List.mem_of_getElem? (i := 155) rfl)))) (mvT hZ (hw _ (List.mem_of_getElem? (i := 155) rfl))) (mvT hZ (hw _ (List.mem_of_getElem? (i := 154) rfl))) (by decide) (backOf (W := 0) (rm_nmb l Z a0 hw [] b1123 u1 T1125.heap n0 Z1125 Fnum) hZ (hw _ (List.mem_of_getElem? (i := 156) rfl)) (hw _ (List.mem_of_getElem? (i := 54) rfl)) (by decide) (by decide)) q1136a q1136c (g := (mkF m 156 #[.val (.int u1), .val (.int u2), .val (.int u3), .val (.int u4), .val (.int u5), .val (.int (0 : Int32)), .val (.ref b1108), .val (.ref b1112), .val (.int n8), .val (.double dd1), .second, .val (.double dd2), .second, .val (.ref b1119), .val (.ref b1123), .val (.int (0 : Int32)), .val (.int (0 : Int32)), .val (.int (1 : Int32))] [(.ref b1123)])) rfl (by rw [hml]; rfl) (Steps.refl _) (argsL := []) (rest := []) (lenOf pd_10 rfl) rfl (by show 2 * 0 + _ ≤ _; exact Nat.le_of_eq rfl) (hb hby at_156) (fun _ _ => ⟨rfl, e122, (by decide : 13 + 0 ≤ _), (by decide : 75 + 0 ≤ _)⟩)
    dsimp only [Pt.U, Pt.locs, Pt.cells, Pt.slots] at X1136 l1136 y1136 z1136 st1136 hQ1136
    subst l1136 y1136 z1136
    obtain ⟨rfl, N1136q, e156⟩ := hQ1136
    have N1136 := Fr.app N1135 N1136q
    have P1137 : ∀ t, Steps p.tables e below (T1136.setTop (mkF m 168 #[.val (.int u1), .val (.int u2), .val (.int u3), .val (.int u4), .val (.int u5), .val (.int (0 : Int32)), .val (.ref b1108), .val (.ref b1112), .val (.int n8), .val (.double dd1), .second, .val (.double dd2), .second, .val (.ref b1119), .val (.ref b1123), .val (.int (0 : Int32)), .val (.int (0 : Int32)), .val (.int (1 : Int32))] [(.int (1 : Int32))])) t → Steps p.tables e below (s₁.setTop (entryFrame m #[(.int u1), (.int u2), (.int u3), (.int u4), (.int u5)] maxLocals)) t := fun t k => P1127 t (by
      refine XS.aload X1125.here hx rfl (hb hby at_98) rfl rfl ?_
      show Steps p.tables e below (T1125.setTop (mkF m 100 #[.val (.int u1), .val (.int u2), .val (.int u3), .val (.int u4), .val (.int u5), .val (.int (0 : Int32)), .val (.ref b1108), .val (.ref b1112), .val (.int n8), .val (.double dd1), .second, .val (.double dd2), .second, .val (.ref b1119), .val (.ref b1123), .unset, .unset, .unset] [(.ref b1123)])) _
      refine st1133.trans ?_
      show Steps p.tables e below (T1133.setTop (mkF m 103 #[.val (.int u1), .val (.int u2), .val (.int u3), .val (.int u4), .val (.int u5), .val (.int (0 : Int32)), .val (.ref b1108), .val (.ref b1112), .val (.int n8), .val (.double dd1), .second, .val (.double dd2), .second, .val (.ref b1119), .val (.ref b1123), .unset, .unset, .unset] [(.int (0 : Int32))])) _
      refine XS.istore X1133.here hx rfl (hb hby at_103) rfl (l' := #[.val (.int u1), .val (.int u2), .val (.int u3), .val (.int u4), .val (.int u5), .val (.int (0 : Int32)), .val (.ref b1108), .val (.ref b1112), .val (.int n8), .val (.double dd1), .second, .val (.double dd2), .second, .val (.ref b1119), .val (.ref b1123), .val (.int (0 : Int32)), .unset, .unset]) rfl ?_
      show Steps p.tables e below (T1133.setTop (mkF m 105 #[.val (.int u1), .val (.int u2), .val (.int u3), .val (.int u4), .val (.int u5), .val (.int (0 : Int32)), .val (.ref b1108), .val (.ref b1112), .val (.int n8), .val (.double dd1), .second, .val (.double dd2), .second, .val (.ref b1119), .val (.ref b1123), .val (.int (0 : Int32)), .unset, .unset] [])) _
      refine XS.aload X1133.here hx rfl (hb hby at_105) rfl rfl ?_
      show Steps p.tables e below (T1133.setTop (mkF m 107 #[.val (.int u1), .val (.int u2), .val (.int u3), .val (.int u4), .val (.int u5), .val (.int (0 : Int32)), .val (.ref b1108), .val (.ref b1112), .val (.int n8), .val (.double dd1), .second, .val (.double dd2), .second, .val (.ref b1119), .val (.ref b1123), .val (.int (0 : Int32)), .unset, .unset] [(.ref b1123)])) _
      refine st1134.trans ?_
      show Steps p.tables e below (T1134.setTop (mkF m 110 #[.val (.int u1), .val (.int u2), .val (.int u3), .val (.int u4), .val (.int u5), .val (.int (0 : Int32)), .val (.ref b1108), .val (.ref b1112), .val (.int n8), .val (.double dd1), .second, .val (.double dd2), .second, .val (.ref b1119), .val (.ref b1123), .val (.int (0 : Int32)), .unset, .unset] [.null])) _
      refine XS.ifnullYes X1134.here hx rfl (pc0 := 110) (pc' := 117) rfl (hb hby at_110) rfl (by decide) (by decide) ?_
      show Steps p.tables e below (T1134.setTop (mkF m 117 #[.val (.int u1), .val (.int u2), .val (.int u3), .val (.int u4), .val (.int u5), .val (.int (0 : Int32)), .val (.ref b1108), .val (.ref b1112), .val (.int n8), .val (.double dd1), .second, .val (.double dd2), .second, .val (.ref b1119), .val (.ref b1123), .val (.int (0 : Int32)), .unset, .unset] [])) _
      refine XS.iconst X1134.here hx rfl (hb hby at_117) ?_
      show Steps p.tables e below (T1134.setTop (mkF m 118 #[.val (.int u1), .val (.int u2), .val (.int u3), .val (.int u4), .val (.int u5), .val (.int (0 : Int32)), .val (.ref b1108), .val (.ref b1112), .val (.int n8), .val (.double dd1), .second, .val (.double dd2), .second, .val (.ref b1119), .val (.ref b1123), .val (.int (0 : Int32)), .unset, .unset] [(.int (0 : Int32))])) _
      refine XS.istore X1134.here hx rfl (hb hby at_118) rfl (l' := #[.val (.int u1), .val (.int u2), .val (.int u3), .val (.int u4), .val (.int u5), .val (.int (0 : Int32)), .val (.ref b1108), .val (.ref b1112), .val (.int n8), .val (.double dd1), .second, .val (.double dd2), .second, .val (.ref b1119), .val (.ref b1123), .val (.int (0 : Int32)), .val (.int (0 : Int32)), .unset]) rfl ?_
      show Steps p.tables e below (T1134.setTop (mkF m 120 #[.val (.int u1), .val (.int u2), .val (.int u3), .val (.int u4), .val (.int u5), .val (.int (0 : Int32)), .val (.ref b1108), .val (.ref b1112), .val (.int n8), .val (.double dd1), .second, .val (.double dd2), .second, .val (.ref b1119), .val (.ref b1123), .val (.int (0 : Int32)), .val (.int (0 : Int32)), .unset] [])) _
      refine XS.aload X1134.here hx rfl (hb hby at_120) rfl rfl ?_
      show Steps p.tables e below (T1134.setTop (mkF m 122 #[.val (.int u1), .val (.int u2), .val (.int u3), .val (.int u4), .val (.int u5), .val (.int (0 : Int32)), .val (.ref b1108), .val (.ref b1112), .val (.int n8), .val (.double dd1), .second, .val (.double dd2), .second, .val (.ref b1119), .val (.ref b1123), .val (.int (0 : Int32)), .val (.int (0 : Int32)), .unset] [(.ref b1123)])) _
      refine st1135.trans ?_
      show Steps p.tables e below (T1135.setTop (mkF m 125 #[.val (.int u1), .val (.int u2), .val (.int u3), .val (.int u4), .val (.int u5), .val (.int (0 : Int32)), .val (.ref b1108), .val (.ref b1112), .val (.int n8), .val (.double dd1), .second, .val (.double dd2), .second, .val (.ref b1119), .val (.ref b1123), .val (.int (0 : Int32)), .val (.int (0 : Int32)), .unset] [(.ref rc)])) _
      refine XS.ifnullNo X1135.here hx rfl (hb hby at_125) rfl ?_
      show Steps p.tables e below (T1135.setTop (mkF m 128 #[.val (.int u1), .val (.int u2), .val (.int u3), .val (.int u4), .val (.int u5), .val (.int (0 : Int32)), .val (.ref b1108), .val (.ref b1112), .val (.int n8), .val (.double dd1), .second, .val (.double dd2), .second, .val (.ref b1119), .val (.ref b1123), .val (.int (0 : Int32)), .val (.int (0 : Int32)), .unset] [])) _
      refine XS.iconst X1135.here hx rfl (hb hby at_128) ?_
      show Steps p.tables e below (T1135.setTop (mkF m 129 #[.val (.int u1), .val (.int u2), .val (.int u3), .val (.int u4), .val (.int u5), .val (.int (0 : Int32)), .val (.ref b1108), .val (.ref b1112), .val (.int n8), .val (.double dd1), .second, .val (.double dd2), .second, .val (.ref b1119), .val (.ref b1123), .val (.int (0 : Int32)), .val (.int (0 : Int32)), .unset] [(.int (1 : Int32))])) _
      refine XS.goto X1135.here hx rfl (pc0 := 129) (pc' := 133) rfl (hb hby at_129) (by decide) (by decide) ?_
      show Steps p.tables e below (T1135.setTop (mkF m 133 #[.val (.int u1), .val (.int u2), .val (.int u3), .val (.int u4), .val (.int u5), .val (.int (0 : Int32)), .val (.ref b1108), .val (.ref b1112), .val (.int n8), .val (.double dd1), .second, .val (.double dd2), .second, .val (.ref b1119), .val (.ref b1123), .val (.int (0 : Int32)), .val (.int (0 : Int32)), .unset] [(.int (1 : Int32))])) _
      refine XS.istore X1135.here hx rfl (hb hby at_133) rfl (l' := #[.val (.int u1), .val (.int u2), .val (.int u3), .val (.int u4), .val (.int u5), .val (.int (0 : Int32)), .val (.ref b1108), .val (.ref b1112), .val (.int n8), .val (.double dd1), .second, .val (.double dd2), .second, .val (.ref b1119), .val (.ref b1123), .val (.int (0 : Int32)), .val (.int (0 : Int32)), .val (.int (1 : Int32))]) rfl ?_
      show Steps p.tables e below (T1135.setTop (mkF m 135 #[.val (.int u1), .val (.int u2), .val (.int u3), .val (.int u4), .val (.int u5), .val (.int (0 : Int32)), .val (.ref b1108), .val (.ref b1112), .val (.int n8), .val (.double dd1), .second, .val (.double dd2), .second, .val (.ref b1119), .val (.ref b1123), .val (.int (0 : Int32)), .val (.int (0 : Int32)), .val (.int (1 : Int32))] [])) _
      refine XS.iload X1135.here hx rfl (hb hby at_135) rfl ?_
      show Steps p.tables e below (T1135.setTop (mkF m 137 #[.val (.int u1), .val (.int u2), .val (.int u3), .val (.int u4), .val (.int u5), .val (.int (0 : Int32)), .val (.ref b1108), .val (.ref b1112), .val (.int n8), .val (.double dd1), .second, .val (.double dd2), .second, .val (.ref b1119), .val (.ref b1123), .val (.int (0 : Int32)), .val (.int (0 : Int32)), .val (.int (1 : Int32))] [(.int (0 : Int32))])) _
      refine XS.iload X1135.here hx rfl (hb hby at_137) rfl ?_
      show Steps p.tables e below (T1135.setTop (mkF m 139 #[.val (.int u1), .val (.int u2), .val (.int u3), .val (.int u4), .val (.int u5), .val (.int (0 : Int32)), .val (.ref b1108), .val (.ref b1112), .val (.int n8), .val (.double dd1), .second, .val (.double dd2), .second, .val (.ref b1119), .val (.ref b1123), .val (.int (0 : Int32)), .val (.int (0 : Int32)), .val (.int (1 : Int32))] [(.int (0 : Int32)), (.int (0 : Int32))])) _
      refine XS.icmpNo X1135.here hx rfl (hb hby at_139) rfl (teq rfl).2 ?_
      show Steps p.tables e below (T1135.setTop (mkF m 142 #[.val (.int u1), .val (.int u2), .val (.int u3), .val (.int u4), .val (.int u5), .val (.int (0 : Int32)), .val (.ref b1108), .val (.ref b1112), .val (.int n8), .val (.double dd1), .second, .val (.double dd2), .second, .val (.ref b1119), .val (.ref b1123), .val (.int (0 : Int32)), .val (.int (0 : Int32)), .val (.int (1 : Int32))] [])) _
      refine XS.iload X1135.here hx rfl (hb hby at_142) rfl ?_
      show Steps p.tables e below (T1135.setTop (mkF m 144 #[.val (.int u1), .val (.int u2), .val (.int u3), .val (.int u4), .val (.int u5), .val (.int (0 : Int32)), .val (.ref b1108), .val (.ref b1112), .val (.int n8), .val (.double dd1), .second, .val (.double dd2), .second, .val (.ref b1119), .val (.ref b1123), .val (.int (0 : Int32)), .val (.int (0 : Int32)), .val (.int (1 : Int32))] [(.int (0 : Int32))])) _
      refine XS.iload X1135.here hx rfl (hb hby at_144) rfl ?_
      show Steps p.tables e below (T1135.setTop (mkF m 146 #[.val (.int u1), .val (.int u2), .val (.int u3), .val (.int u4), .val (.int u5), .val (.int (0 : Int32)), .val (.ref b1108), .val (.ref b1112), .val (.int n8), .val (.double dd1), .second, .val (.double dd2), .second, .val (.ref b1119), .val (.ref b1123), .val (.int (0 : Int32)), .val (.int (0 : Int32)), .val (.int (1 : Int32))] [(.int (0 : Int32)), (.int (0 : Int32))])) _
      refine XS.icmpNo X1135.here hx rfl (hb hby at_146) rfl (teq rfl).2 ?_
      show Steps p.tables e below (T1135.setTop (mkF m 149 #[.val (.int u1), .val (.int u2), .val (.int u3), .val (.int u4), .val (.int u5), .val (.int (0 : Int32)), .val (.ref b1108), .val (.ref b1112), .val (.int n8), .val (.double dd1), .second, .val (.double dd2), .second, .val (.ref b1119), .val (.ref b1123), .val (.int (0 : Int32)), .val (.int (0 : Int32)), .val (.int (1 : Int32))] [])) _
      refine XS.iload X1135.here hx rfl (hb hby at_149) rfl ?_
      show Steps p.tables e below (T1135.setTop (mkF m 151 #[.val (.int u1), .val (.int u2), .val (.int u3), .val (.int u4), .val (.int u5), .val (.int (0 : Int32)), .val (.ref b1108), .val (.ref b1112), .val (.int n8), .val (.double dd1), .second, .val (.double dd2), .second, .val (.ref b1119), .val (.ref b1123), .val (.int (0 : Int32)), .val (.int (0 : Int32)), .val (.int (1 : Int32))] [(.int (1 : Int32))])) _
      refine XS.ifNo X1135.here hx rfl (hb hby at_151) rfl ((if0 _ _).trans (feq (by decide)).1) ?_
      show Steps p.tables e below (T1135.setTop (mkF m 154 #[.val (.int u1), .val (.int u2), .val (.int u3), .val (.int u4), .val (.int u5), .val (.int (0 : Int32)), .val (.ref b1108), .val (.ref b1112), .val (.int n8), .val (.double dd1), .second, .val (.double dd2), .second, .val (.ref b1119), .val (.ref b1123), .val (.int (0 : Int32)), .val (.int (0 : Int32)), .val (.int (1 : Int32))] [])) _
      refine XS.aload X1135.here hx rfl (hb hby at_154) rfl rfl ?_
      show Steps p.tables e below (T1135.setTop (mkF m 156 #[.val (.int u1), .val (.int u2), .val (.int u3), .val (.int u4), .val (.int u5), .val (.int (0 : Int32)), .val (.ref b1108), .val (.ref b1112), .val (.int n8), .val (.double dd1), .second, .val (.double dd2), .second, .val (.ref b1119), .val (.ref b1123), .val (.int (0 : Int32)), .val (.int (0 : Int32)), .val (.int (1 : Int32))] [(.ref b1123)])) _
      refine st1136.trans ?_
      show Steps p.tables e below (T1136.setTop (mkF m 159 #[.val (.int u1), .val (.int u2), .val (.int u3), .val (.int u4), .val (.int u5), .val (.int (0 : Int32)), .val (.ref b1108), .val (.ref b1112), .val (.int n8), .val (.double dd1), .second, .val (.double dd2), .second, .val (.ref b1119), .val (.ref b1123), .val (.int (0 : Int32)), .val (.int (0 : Int32)), .val (.int (1 : Int32))] [(.int u1)])) _
      refine XS.iloadN X1136.here hx rfl (hb hby at_159) rfl ?_
      show Steps p.tables e below (T1136.setTop (mkF m 160 #[.val (.int u1), .val (.int u2), .val (.int u3), .val (.int u4), .val (.int u5), .val (.int (0 : Int32)), .val (.ref b1108), .val (.ref b1112), .val (.int n8), .val (.double dd1), .second, .val (.double dd2), .second, .val (.ref b1119), .val (.ref b1123), .val (.int (0 : Int32)), .val (.int (0 : Int32)), .val (.int (1 : Int32))] [(.int u1), (.int u1)])) _
      refine XS.icmpNo X1136.here hx rfl (hb hby at_160) rfl (teq rfl).2 ?_
      show Steps p.tables e below (T1136.setTop (mkF m 163 #[.val (.int u1), .val (.int u2), .val (.int u3), .val (.int u4), .val (.int u5), .val (.int (0 : Int32)), .val (.ref b1108), .val (.ref b1112), .val (.int n8), .val (.double dd1), .second, .val (.double dd2), .second, .val (.ref b1119), .val (.ref b1123), .val (.int (0 : Int32)), .val (.int (0 : Int32)), .val (.int (1 : Int32))] [])) _
      refine XS.iconst X1136.here hx rfl (hb hby at_163) ?_
      show Steps p.tables e below (T1136.setTop (mkF m 164 #[.val (.int u1), .val (.int u2), .val (.int u3), .val (.int u4), .val (.int u5), .val (.int (0 : Int32)), .val (.ref b1108), .val (.ref b1112), .val (.int n8), .val (.double dd1), .second, .val (.double dd2), .second, .val (.ref b1119), .val (.ref b1123), .val (.int (0 : Int32)), .val (.int (0 : Int32)), .val (.int (1 : Int32))] [(.int (1 : Int32))])) _
      refine XS.goto X1136.here hx rfl (pc0 := 164) (pc' := 168) rfl (hb hby at_164) (by decide) (by decide) ?_
      show Steps p.tables e below (T1136.setTop (mkF m 168 #[.val (.int u1), .val (.int u2), .val (.int u3), .val (.int u4), .val (.int u5), .val (.int (0 : Int32)), .val (.ref b1108), .val (.ref b1112), .val (.int n8), .val (.double dd1), .second, .val (.double dd2), .second, .val (.ref b1119), .val (.ref b1123), .val (.int (0 : Int32)), .val (.int (0 : Int32)), .val (.int (1 : Int32))] [(.int (1 : Int32))])) _
      exact k)
    obtain ⟨fs, hr, hrun, hended, hW, hsame⟩ := X1136.leave (v := some (.int (1 : Int32))) (fun h => by rw [Bd.returns] at h; cases h)
    refine ⟨_, _, P1137 _ ?_, hrun, hended, _, _, rfl, ?_, ⟨_, rfl⟩, hW, hsame.mono (by decide) (by decide)⟩
    · exact retN X1136 hx (t := .boolean) Bd.returns (by simp) (hb hby at_168) hr
    · show Q_law Z u1 u2 u3 u4 u5 ms cz h0 n0 _ T1136.heap _
      rw [e156]
      exact ⟨rfl, N1136⟩
set_option maxRecDepth 65536 in
set_option maxHeartbeats 40000000 in
theorem comes_1 {Post : Tables → Env → Array Value → State → Outcome → State → Prop} (hpost : ∀ tb e args s v u, (limb_1_1.after args s (.returned v) u = true ∧ limb_1_2.after args s (.returned v) u = true ∧ True) → FrameEnd s (.returned v) u (Jvm.fieldLocs frame_1_writes args s ++ Jvm.arrayLocs frame_1_arrays args s ++ Jvm.staticLocs frame_1_statics s) 40 256 → Post tb e args s (.returned v) u) :
    ArmFor flags0 classFile x code maxLocals ret World_1 tables_1 room_1 Calls_1 rest_1 Pre_1 Post := by
  intro l hfl _ _ p e ha hc hk s m args below hf hA hF happ hP
  obtain ⟨hcalls, hrest, hpre⟩ := hP
  obtain ⟨-, -, -, hnamed, -, -, -, hat⟩ := (Spec.applies_iff hf).mp happ
  obtain ⟨hg, hn⟩ := and_e (Cond.before_iff.mp (show (Jvm.Cond.and given_1 narrow_1).before args s = true from hpre))
  obtain ⟨g1, g2⟩ := and_e hg
  obtain ⟨g3, g4⟩ := and_e g2
  obtain ⟨g5, g6⟩ := and_e g4
  obtain ⟨g7, g8⟩ := and_e g6
  obtain ⟨g9, g10⟩ := and_e g8
  obtain ⟨w0, w1, w2, w3, w4, rfl⟩ : ∃ w0 w1 w2 w3 w4 : Value, args = #[w0, w1, w2, w3, w4] := by
    have hs : args.size = 5 := by simpa [Cond.value, given_1] using g1
    obtain ⟨L⟩ := args
    match L, hs with
    | [w0, w1, w2, w3, w4], _ => exact ⟨w0, w1, w2, w3, w4, rfl⟩
  have hw := fun d (hd : d ∈ tables_1) => atoms_spec (ws := Jvm.Cond.code x code maxLocals ret :: tables_1) hat d (List.mem_cons_of_mem _ hd)
  have hfit : Fit s := fun {y c} hc i hi => by
    obtain ⟨ha, rfl⟩ := Array.getElem?_eq_some_iff.mp hc
    have q := List.all_eq_true.mp ((Array.all_eq_true_iff_forall_mem.mp hF) _ (Array.getElem_mem ha)) i (List.mem_range.mpr hi)
    simpa [Array.getElem?_eq_getElem hi] using q
  obtain ⟨hsets, hown0⟩ := atoms_of _ (rest_1_c_eq ▸ (show rest_1_c.before _ s = true from hrest))
  obtain ⟨i0, ei0⟩ := is_v g3
  obtain rfl : w0 = (.int i0) := Option.some.inj ei0
  obtain ⟨i1, ei1⟩ := is_v g5
  obtain rfl : w1 = (.int i1) := Option.some.inj ei1
  obtain ⟨i2, ei2⟩ := is_v g7
  obtain rfl : w2 = (.int i2) := Option.some.inj ei2
  obtain ⟨i3, ei3⟩ := is_v g9
  obtain rfl : w3 = (.int i3) := Option.some.inj ei3
  obtain ⟨i4, ei4⟩ := is_v g10
  obtain rfl : w4 = (.int i4) := Option.some.inj ei4
  obtain ⟨ms, ems⟩ := exa_v hn
  have SM : Sta s s.heap "com/example/quorumline/quorumline/sim/Moment" "START" "Lcom/example/quorumline/quorumline/sim/Moment;" (.ref ms) := Sta.start ems (Or.inr ⟨(hw _ (List.mem_of_getElem? (i := 125) rfl)), (hw _ (List.mem_of_getElem? (i := 126) rfl))⟩)
  obtain ⟨cz, ecz⟩ := is_v (Cond.before_iff.mp (hsets _ (List.mem_of_getElem? (i := 1) rfl)))
  have SC : Sta s s.heap "java/lang/String" "COMPACT_STRINGS" "Z" (.int cz) := Sta.start ecz (Or.inl (hsets _ (List.mem_of_getElem? (i := 0) rfl)))
  have hcz : ¬ cz = 0 := gotF (Cond.eq_ints ecz (Term.int_eval 0)) (not_v (Cond.before_iff.mp (hsets _ (List.mem_of_getElem? (i := 2) rfl))))
  obtain ⟨n, o, h1, h2, h3, _, L, rfl, ⟨rfl, N⟩, hq⟩ := rm_law l s _ hw tables_1 i0 i1 i2 i3 i4 ms cz s.heap s.heap.size (Nat.le_refl _) SM (Old.start s) SC hcz p e ha hc hk s m _ below hf ((Spec.applies_iff_loose hf).mp happ).1 ⟨rfl, State.Warmed39.refl s, rfl⟩ trivial
  refine ⟨n, _, h1, h2, h3, hpost _ _ _ _ _ _ ⟨Cond.after_iff.mpr rfl, Cond.after_iff.mpr (eq_i res_at (Term.int_eval (1)) rfl), trivial⟩ ⟨hq.1, hq.2.1, (hq.2.2.sift fun y hy => Or.inr (N y hy)).mono (by decide) (by decide)⟩⟩
theorem main_1_1 : Claimed_1_1 := comes_1 fun _ _ _ _ _ _ h hF => ⟨h.1, hF⟩
theorem main_1_2 : Claimed_1_2 := comes_1 fun _ _ _ _ _ _ h hF => ⟨h.2.1, hF⟩
end Jvm.Pilot.@@N@@
namespace Jvm.Pilot.@@N@@
open Jvm Jvm.ClassFile Sem Op Lib Jvm.Free Jvm.Stand Jvm.Pilot.@@N@@.Jvm.D
/-! MADE BY PROGRAM (witnessworld.py) out of the Statement's table words and the real class files: 33 classes; the members and pool entries that the words name. The judged class is class 1, her method 1. -/
namespace start1
open Jvm.ClassFile
def u (s : String) : CpInfo := .utf8 (stringToUtf16 s)
/-- a pool by its gaps: so many unusable entries, then the entry; so many at the end -/
def gap : Nat → List CpInfo → List CpInfo
  | 0, r => r
  | n + 1, r => .unusable :: gap n r
def poolList (es : List (Nat × CpInfo)) (last : Nat) : List CpInfo := es.foldr (fun e r => gap e.1 (e.2 :: r)) (gap last [])
def pool (es : List (Nat × CpInfo)) (last : Nat) : Array CpInfo := ⟨poolList es last⟩
def fileOf (pool : Array CpInfo) (this : Nat) (attrs : Array Attribute := #[]) (ms : Array MethodInfo := #[]) (fl : Nat := 33) (sup : Nat := 0) (ifs : Array Nat := #[]) (fds : Array FieldInfo := #[]) : ClassFile where
  minorVersion := 0
  majorVersion := 65
  constantPool := pool
  accessFlags := fl
  thisClass := this
  superClass := sup
  interfaces := ifs
  fields := fds
  methods := ms
  attributes := attrs
def plain (name : String) (sup : Option ClassId) : Class where
  name := name
  kind := .ordinary
  loader := none
  accessFlags := 33
  super := sup
  interfaces := #[]
  cf := none
  fields := #[]
  methods := #[]
  instanceTypes := #[]
  staticTypes := #[]
  resolved := #[]
  callSites := []
  init := .initialized
  statics := none
  mirror := none

def pool0 : Array CpInfo := pool [(5, u "<init>"), (0, u "()V"), (1, .class_ 10), (1, u "java/lang/Object")] 113

def k0c0 : Code := { maxStack := 0, maxLocals := 1, code := object_method_1_code, exceptionTable := #[], attributes := #[] }
def k0m0 : Method := { name := "<init>", desc := "()V", sig := { parameters := [], returnType := none }, accessFlags := 1, code := some k0c0 }
/-- java/lang/Object -/
def k0 : Class := { plain "java/lang/Object" none with
  accessFlags := 33
  interfaces := #[]
  cf := some (fileOf pool0 8 #[] #[{ accessFlags := 1, nameIndex := 5, descriptorIndex := 6, attributes := #[] }] 33 0 #[] #[])
  fields := #[]
  methods := #[k0m0]
  instanceTypes := #[]
  staticTypes := #[]
  resolved := Array.replicate 124 none
  statics := none }

def pool1 : Array CpInfo := pool [(2, .class_ 4), (1, u "java/lang/Object"), (0, u "<init>"), (0, u "()V"), (0, .class_ 8), (0, u "java/lang/String"), (0, .methodref 7 10), (0, .nameAndType 5 11), (0, u "([C)V"), (0, .class_ 13), (0, u "com/example/quorumline/quorumline/sim/Layout$Group"), (0, .methodref 12 15), (0, .nameAndType 5 16), (0, u "(Ljava/lang/String;IZDD)V"), (0, .class_ 18), (0, u "com/example/quorumline/quorumline/sim/Site"), (0, .methodref 17 20), (0, .nameAndType 5 21), (0, u "(ILcom/example/quorumline/quorumline/sim/Layout$Group;Lcom/example/quorumline/quorumline/sim/Calendar;Lcom/example/quorumline/quorumline/sim/Queues;)V"), (0, .methodref 17 23), (0, .nameAndType 24 25), (0, u "hasIo"), (0, u "()Z"), (0, .methodref 17 27), (0, .nameAndType 28 29), (0, u "io"), (0, u "()Lcom/example/quorumline/quorumline/sim/Server;"), (0, .methodref 17 31), (0, .nameAndType 32 29), (0, u "cpu"), (0, .methodref 17 34), (0, .nameAndType 35 36), (0, u "number"), (0, u "()I"), (0, .class_ 38), (0, u "com/example/quorumline/quorumline/sim/SiteHasIoPinLaw"), (2, u "law"), (0, u "(IIIII)Z")] 9

def k1m0 : Method := { name := "<init>", desc := "()V", sig := { parameters := [], returnType := none }, accessFlags := 2, code := none }
def k1c1 : Code := { maxStack := 9, maxLocals := 18, code := code, exceptionTable := #[], attributes := #[] }
def k1m1 : Method := { name := "law", desc := "(IIIII)Z", sig := { parameters := [.int, .int, .int, .int, .int], returnType := some .boolean }, accessFlags := 9, code := some k1c1 }
/-- com/example/quorumline/quorumline/sim/SiteHasIoPinLaw -/
def k1 : Class := { plain "com/example/quorumline/quorumline/sim/SiteHasIoPinLaw" (some 0) with
  accessFlags := 49
  interfaces := #[]
  cf := some (fileOf pool1 37 #[] #[{ accessFlags := 2, nameIndex := 5, descriptorIndex := 6, attributes := #[] }, { accessFlags := 9, nameIndex := 41, descriptorIndex := 42, attributes := #[] }] 49 2 #[] #[])
  fields := #[]
  methods := #[k1m0, k1m1]
  instanceTypes := #[]
  staticTypes := #[]
  resolved := Array.replicate 52 none
  statics := none }

def pool2 : Array CpInfo := pool [(1, .class_ 2), (0, u "java/io/Serializable"), (0, .class_ 4), (0, u "java/lang/Object")] 2

/-- java/io/Serializable -/
def k2 : Class := { plain "java/io/Serializable" (some 0) with
  accessFlags := 1537
  interfaces := #[]
  cf := some (fileOf pool2 1 #[] #[] 1537 3 #[] #[])
  fields := #[]
  methods := #[]
  instanceTypes := #[]
  staticTypes := #[]
  resolved := Array.replicate 7 none
  statics := none }

def pool3 : Array CpInfo := pool [(1, .class_ 2), (0, u "java/lang/Comparable"), (0, .class_ 4), (0, u "java/lang/Object")] 7

/-- java/lang/Comparable -/
def k3 : Class := { plain "java/lang/Comparable" (some 0) with
  accessFlags := 1537
  interfaces := #[]
  cf := some (fileOf pool3 1 #[] #[] 1537 3 #[] #[])
  fields := #[]
  methods := #[]
  instanceTypes := #[]
  staticTypes := #[]
  resolved := Array.replicate 12 none
  statics := none }

def pool4 : Array CpInfo := pool [(2, .class_ 4), (1, u "java/lang/CharSequence"), (42, .class_ 48), (0, u "java/lang/CharSequence$1CodePointIterator"), (10, .class_ 60), (0, u "java/lang/CharSequence$1CharIterator"), (5, .class_ 67), (0, u "java/lang/Object")] 63

/-- java/lang/CharSequence -/
def k4 : Class := { plain "java/lang/CharSequence" (some 0) with
  accessFlags := 1537
  interfaces := #[]
  cf := some (fileOf pool4 2 #[.nestMembers #[47, 59]] #[] 1537 66 #[] #[])
  fields := #[]
  methods := #[]
  instanceTypes := #[]
  staticTypes := #[]
  resolved := Array.replicate 131 none
  statics := none }

def pool5 : Array CpInfo := pool [(1, .class_ 2), (0, u "java/lang/constant/Constable"), (0, .class_ 4), (0, u "java/lang/Object")] 6

/-- java/lang/constant/Constable -/
def k5 : Class := { plain "java/lang/constant/Constable" (some 0) with
  accessFlags := 1537
  interfaces := #[]
  cf := some (fileOf pool5 1 #[] #[] 1537 3 #[] #[])
  fields := #[]
  methods := #[]
  instanceTypes := #[]
  staticTypes := #[]
  resolved := Array.replicate 11 none
  statics := none }

def pool6 : Array CpInfo := pool [(1, .class_ 2), (0, u "java/lang/constant/ConstantDesc"), (0, .class_ 4), (0, u "java/lang/Object")] 32

/-- java/lang/constant/ConstantDesc -/
def k6 : Class := { plain "java/lang/constant/ConstantDesc" (some 0) with
  accessFlags := 1537
  interfaces := #[]
  cf := some (fileOf pool6 1 #[] #[] 1537 3 #[] #[])
  fields := #[]
  methods := #[]
  instanceTypes := #[]
  staticTypes := #[]
  resolved := Array.replicate 37 none
  statics := none }

def pool7 : Array CpInfo := pool [(1, .methodref 2 3), (0, .class_ 4), (0, .nameAndType 5 6), (0, u "java/lang/Object"), (0, u "<init>"), (0, u "()V"), (2, .fieldref 10 11), (0, .class_ 12), (0, .nameAndType 13 14), (0, u "java/lang/String"), (0, u "value"), (0, u "[B"), (0, .fieldref 10 16), (0, .nameAndType 17 18), (0, u "coder"), (0, u "B"), (2, u "hash"), (0, u "I"), (2, u "hashIsZero"), (0, u "Z"), (0, .methodref 10 28), (0, .nameAndType 5 29), (0, u "([CIILjava/lang/Void;)V"), (8, .fieldref 10 39), (0, .nameAndType 40 26), (0, u "COMPACT_STRINGS"), (1, .class_ 44), (1, u "java/lang/StringUTF16"), (0, u "compress"), (1, .methodref 42 48), (0, .nameAndType 49 50), (0, u "coderFromArrayLen"), (0, u "([BI)B"), (126, .methodref 42 178), (0, .nameAndType 45 179), (0, u "([CII)[B"), (395, .class_ 576), (0, u "java/lang/CharSequence"), (22, u "CASE_INSENSITIVE_ORDER"), (0, u "Ljava/util/Comparator;"), (409, u "([C)V"), (90, u "serialPersistentFields"), (0, u "[Ljava/io/ObjectStreamField;"), (0, .class_ 1104), (0, u "java/lang/String$CaseInsensitiveComparator"), (1, .class_ 1107), (0, u "java/io/Serializable"), (0, .class_ 1109), (0, u "java/lang/Comparable"), (0, .class_ 1111), (0, u "java/lang/constant/Constable"), (0, .class_ 1113), (0, u "java/lang/constant/ConstantDesc"), (2, u "serialVersionUID"), (0, u "J"), (3, u "REPL"), (0, u "C"), (2, u "LATIN1"), (1, u "UTF16")] 323

def k7m0 : Method := { name := "<init>", desc := "()V", sig := { parameters := [], returnType := none }, accessFlags := 1, code := none }
def k7c1 : Code := { maxStack := 5, maxLocals := 2, code := jdk_42_method_3_code, exceptionTable := #[], attributes := #[] }
def k7m1 : Method := { name := "<init>", desc := "([C)V", sig := { parameters := [(.array .char)], returnType := none }, accessFlags := 1, code := some k7c1 }
def k7c2 : Code := { maxStack := 4, maxLocals := 6, code := jdk_42_method_149_code, exceptionTable := #[], attributes := #[] }
def k7m2 : Method := { name := "<init>", desc := "([CIILjava/lang/Void;)V", sig := { parameters := [(.array .char), .int, .int, (.object "java/lang/Void")], returnType := none }, accessFlags := 2, code := some k7c2 }
/-- java/lang/String -/
def k7 : Class := { plain "java/lang/String" (some 0) with
  accessFlags := 49
  interfaces := #[2, 3, 4, 5, 6]
  cf := some (fileOf pool7 10 #[.nestMembers #[1103]] #[{ accessFlags := 1, nameIndex := 5, descriptorIndex := 6, attributes := #[] }, { accessFlags := 1, nameIndex := 5, descriptorIndex := 1010, attributes := #[] }, { accessFlags := 2, nameIndex := 5, descriptorIndex := 29, attributes := #[] }] 49 2 #[1106, 1108, 575, 1110, 1112] #[{ accessFlags := 18, nameIndex := 13, descriptorIndex := 14, attributes := #[] }, { accessFlags := 18, nameIndex := 17, descriptorIndex := 18, attributes := #[] }, { accessFlags := 2, nameIndex := 21, descriptorIndex := 22, attributes := #[] }, { accessFlags := 2, nameIndex := 25, descriptorIndex := 26, attributes := #[] }, { accessFlags := 26, nameIndex := 1116, descriptorIndex := 1117, attributes := #[] }, { accessFlags := 24, nameIndex := 40, descriptorIndex := 26, attributes := #[] }, { accessFlags := 26, nameIndex := 1101, descriptorIndex := 1102, attributes := #[] }, { accessFlags := 26, nameIndex := 1121, descriptorIndex := 1122, attributes := #[] }, { accessFlags := 25, nameIndex := 599, descriptorIndex := 600, attributes := #[] }, { accessFlags := 24, nameIndex := 1125, descriptorIndex := 18, attributes := #[] }, { accessFlags := 24, nameIndex := 1127, descriptorIndex := 18, attributes := #[] }])
  fields := #[{ name := "value", type := (.array .byte), accessFlags := 18, slot := 0, constantValue := 0 }, { name := "coder", type := .byte, accessFlags := 18, slot := 1, constantValue := 0 }, { name := "hash", type := .int, accessFlags := 2, slot := 2, constantValue := 0 }, { name := "hashIsZero", type := .boolean, accessFlags := 2, slot := 3, constantValue := 0 }, { name := "serialVersionUID", type := .long, accessFlags := 26, slot := 0, constantValue := 0 }, { name := "COMPACT_STRINGS", type := .boolean, accessFlags := 24, slot := 1, constantValue := 0 }, { name := "serialPersistentFields", type := (.array (.object "java/io/ObjectStreamField")), accessFlags := 26, slot := 2, constantValue := 0 }, { name := "REPL", type := .char, accessFlags := 26, slot := 3, constantValue := 0 }, { name := "CASE_INSENSITIVE_ORDER", type := (.object "java/util/Comparator"), accessFlags := 25, slot := 4, constantValue := 0 }, { name := "LATIN1", type := .byte, accessFlags := 24, slot := 5, constantValue := 0 }, { name := "UTF16", type := .byte, accessFlags := 24, slot := 6, constantValue := 0 }]
  methods := #[k7m0, k7m1, k7m2]
  instanceTypes := #[(.array .byte), .byte, .int, .boolean]
  staticTypes := #[.long, .boolean, (.array (.object "java/io/ObjectStreamField")), .char, (.object "java/util/Comparator"), .byte, .byte]
  resolved := Array.replicate 1451 none
  statics := some 0 }

def pool8 : Array CpInfo := pool [(6, .class_ 8), (1, u "java/lang/Object"), (0, u "<init>"), (0, u "()V"), (1, .class_ 14), (1, u "java/lang/StringUTF16"), (31, u "$assertionsDisabled"), (0, u "Z"), (13, u "HI_BYTE_SHIFT"), (0, u "I"), (2, u "LO_BYTE_SHIFT"), (49, .methodref 12 116), (0, .nameAndType 117 118), (0, u "compress"), (0, u "([CI[BII)I"), (3, u "([CII)[B"), (138, u "coderFromArrayLen"), (0, u "([BI)B"), (106, .class_ 371), (1, u "java/lang/StringUTF16$LinesSpliterator"), (58, u "MAX_LENGTH"), (196, .class_ 628), (0, u "java/lang/StringUTF16$CodePointsSpliterator"), (0, .class_ 630), (0, u "java/lang/StringUTF16$CharsSpliterator")] 4

def k8m0 : Method := { name := "<init>", desc := "()V", sig := { parameters := [], returnType := none }, accessFlags := 0, code := none }
def k8c1 : Code := { maxStack := 2, maxLocals := 2, code := jdk_52_method_15_code, exceptionTable := #[], attributes := #[] }
def k8m1 : Method := { name := "coderFromArrayLen", desc := "([BI)B", sig := { parameters := [(.array .byte), .int], returnType := some .byte }, accessFlags := 8, code := some k8c1 }
def k8c2 : Code := { maxStack := 5, maxLocals := 6, code := jdk_52_method_16_code, exceptionTable := #[], attributes := #[] }
def k8m2 : Method := { name := "compress", desc := "([CII)[B", sig := { parameters := [(.array .char), .int, .int], returnType := some (.array .byte) }, accessFlags := 9, code := some k8c2 }
def k8c3 : Code := { maxStack := 3, maxLocals := 7, code := jdk_52_method_21_code, exceptionTable := #[], attributes := #[] }
def k8m3 : Method := { name := "compress", desc := "([CI[BII)I", sig := { parameters := [(.array .char), .int, (.array .byte), .int, .int], returnType := some .int }, accessFlags := 9, code := some k8c3 }
/-- java/lang/StringUTF16 -/
def k8 : Class := { plain "java/lang/StringUTF16" (some 0) with
  accessFlags := 48
  interfaces := #[]
  cf := some (fileOf pool8 12 #[.nestMembers #[627, 629, 369]] #[{ accessFlags := 0, nameIndex := 9, descriptorIndex := 10, attributes := #[] }, { accessFlags := 8, nameIndex := 261, descriptorIndex := 262, attributes := #[] }, { accessFlags := 9, nameIndex := 117, descriptorIndex := 122, attributes := #[] }, { accessFlags := 9, nameIndex := 117, descriptorIndex := 118, attributes := #[] }] 48 6 #[] #[{ accessFlags := 26, nameIndex := 61, descriptorIndex := 62, attributes := #[] }, { accessFlags := 26, nameIndex := 65, descriptorIndex := 62, attributes := #[] }, { accessFlags := 24, nameIndex := 430, descriptorIndex := 62, attributes := #[] }, { accessFlags := 4120, nameIndex := 46, descriptorIndex := 47, attributes := #[] }])
  fields := #[{ name := "HI_BYTE_SHIFT", type := .int, accessFlags := 26, slot := 0, constantValue := 0 }, { name := "LO_BYTE_SHIFT", type := .int, accessFlags := 26, slot := 1, constantValue := 0 }, { name := "MAX_LENGTH", type := .int, accessFlags := 24, slot := 2, constantValue := 0 }, { name := "$assertionsDisabled", type := .boolean, accessFlags := 4120, slot := 3, constantValue := 0 }]
  methods := #[k8m0, k8m1, k8m2, k8m3]
  instanceTypes := #[]
  staticTypes := #[.int, .int, .int, .boolean]
  resolved := Array.replicate 635 none
  statics := none }

def pool9 : Array CpInfo := pool [(1, .methodref 2 3), (0, .class_ 4), (0, .nameAndType 5 6), (0, u "java/lang/Object"), (0, u "<init>"), (0, u "()V"), (0, .class_ 8), (0, u "java/lang/Record")] 13

def k9c0 : Code := { maxStack := 1, maxLocals := 1, code := jdk_30_method_1_code, exceptionTable := #[], attributes := #[] }
def k9m0 : Method := { name := "<init>", desc := "()V", sig := { parameters := [], returnType := none }, accessFlags := 4, code := some k9c0 }
/-- java/lang/Record -/
def k9 : Class := { plain "java/lang/Record" (some 0) with
  accessFlags := 1057
  interfaces := #[]
  cf := some (fileOf pool9 7 #[] #[{ accessFlags := 4, nameIndex := 5, descriptorIndex := 6, attributes := #[] }] 1057 2 #[] #[])
  fields := #[]
  methods := #[k9m0]
  instanceTypes := #[]
  staticTypes := #[]
  resolved := Array.replicate 22 none
  statics := none }

def pool10 : Array CpInfo := pool [(1, .methodref 2 3), (0, .class_ 4), (0, .nameAndType 5 6), (0, u "java/lang/Record"), (0, u "<init>"), (0, u "()V"), (0, .fieldref 8 9), (0, .class_ 10), (0, .nameAndType 11 12), (0, u "com/example/quorumline/quorumline/sim/Layout$Group"), (0, u "kind"), (0, u "Ljava/lang/String;"), (0, .fieldref 8 14), (0, .nameAndType 15 16), (0, u "count"), (0, u "I"), (0, .fieldref 8 18), (0, .nameAndType 19 20), (0, u "io"), (0, u "Z"), (0, .fieldref 8 22), (0, .nameAndType 23 24), (0, u "cpuSlice"), (0, u "D"), (0, .fieldref 8 26), (0, .nameAndType 27 24), (0, u "messageCpu"), (12, u "(Ljava/lang/String;IZDD)V"), (3, u "()Ljava/lang/String;"), (2, u "()Z"), (0, u "()D"), (3, .class_ 53), (0, u "com/example/quorumline/quorumline/sim/Layout")] 23

def k10c0 : Code := { maxStack := 3, maxLocals := 8, code := prog_77_method_1_code, exceptionTable := #[], attributes := #[] }
def k10m0 : Method := { name := "<init>", desc := "(Ljava/lang/String;IZDD)V", sig := { parameters := [(.object "java/lang/String"), .int, .boolean, .double, .double], returnType := none }, accessFlags := 1, code := some k10c0 }
def k10c1 : Code := { maxStack := 1, maxLocals := 1, code := prog_77_method_5_code, exceptionTable := #[], attributes := #[] }
def k10m1 : Method := { name := "kind", desc := "()Ljava/lang/String;", sig := { parameters := [], returnType := some (.object "java/lang/String") }, accessFlags := 1, code := some k10c1 }
def k10c2 : Code := { maxStack := 1, maxLocals := 1, code := prog_77_method_7_code, exceptionTable := #[], attributes := #[] }
def k10m2 : Method := { name := "io", desc := "()Z", sig := { parameters := [], returnType := some .boolean }, accessFlags := 1, code := some k10c2 }
def k10c3 : Code := { maxStack := 2, maxLocals := 1, code := prog_77_method_8_code, exceptionTable := #[], attributes := #[] }
def k10m3 : Method := { name := "cpuSlice", desc := "()D", sig := { parameters := [], returnType := some .double }, accessFlags := 1, code := some k10c3 }
def k10c4 : Code := { maxStack := 2, maxLocals := 1, code := prog_77_method_9_code, exceptionTable := #[], attributes := #[] }
def k10m4 : Method := { name := "messageCpu", desc := "()D", sig := { parameters := [], returnType := some .double }, accessFlags := 1, code := some k10c4 }
/-- com/example/quorumline/quorumline/sim/Layout$Group -/
def k10 : Class := { plain "com/example/quorumline/quorumline/sim/Layout$Group" (some 9) with
  accessFlags := 49
  interfaces := #[]
  cf := some (fileOf pool10 8 #[.nestHost 52] #[{ accessFlags := 1, nameIndex := 5, descriptorIndex := 40, attributes := #[] }, { accessFlags := 1, nameIndex := 11, descriptorIndex := 44, attributes := #[] }, { accessFlags := 1, nameIndex := 19, descriptorIndex := 47, attributes := #[] }, { accessFlags := 1, nameIndex := 23, descriptorIndex := 48, attributes := #[] }, { accessFlags := 1, nameIndex := 27, descriptorIndex := 48, attributes := #[] }] 49 2 #[] #[{ accessFlags := 18, nameIndex := 11, descriptorIndex := 12, attributes := #[] }, { accessFlags := 18, nameIndex := 15, descriptorIndex := 16, attributes := #[] }, { accessFlags := 18, nameIndex := 19, descriptorIndex := 20, attributes := #[] }, { accessFlags := 18, nameIndex := 23, descriptorIndex := 24, attributes := #[] }, { accessFlags := 18, nameIndex := 27, descriptorIndex := 24, attributes := #[] }])
  fields := #[{ name := "kind", type := (.object "java/lang/String"), accessFlags := 18, slot := 0, constantValue := 0 }, { name := "count", type := .int, accessFlags := 18, slot := 1, constantValue := 0 }, { name := "io", type := .boolean, accessFlags := 18, slot := 2, constantValue := 0 }, { name := "cpuSlice", type := .double, accessFlags := 18, slot := 3, constantValue := 0 }, { name := "messageCpu", type := .double, accessFlags := 18, slot := 4, constantValue := 0 }]
  methods := #[k10m0, k10m1, k10m2, k10m3, k10m4]
  instanceTypes := #[(.object "java/lang/String"), .int, .boolean, .double, .double]
  staticTypes := #[]
  resolved := Array.replicate 77 none
  statics := none }

def pool11 : Array CpInfo := pool [(1, .methodref 2 3), (0, .class_ 4), (0, .nameAndType 5 6), (0, u "java/lang/Object"), (0, u "<init>"), (0, u "()V"), (0, .fieldref 8 9), (0, .class_ 10), (0, .nameAndType 11 12), (0, u "com/example/quorumline/quorumline/sim/Site"), (0, u "number"), (0, u "I"), (0, .methodref 14 15), (0, .class_ 16), (0, .nameAndType 17 18), (0, u "com/example/quorumline/quorumline/sim/Layout$Group"), (0, u "kind"), (0, u "()Ljava/lang/String;"), (0, .fieldref 8 20), (0, .nameAndType 17 21), (0, u "Ljava/lang/String;"), (0, .methodref 14 23), (0, .nameAndType 24 25), (0, u "cpuSlice"), (0, u "()D"), (0, .fieldref 8 27), (0, .nameAndType 24 28), (0, u "D"), (0, .methodref 14 30), (0, .nameAndType 31 25), (0, u "messageCpu"), (0, .fieldref 8 33), (0, .nameAndType 31 28), (0, .methodref 14 35), (0, .nameAndType 36 37), (0, u "io"), (0, u "()Z"), (0, .class_ 39), (0, u "com/example/quorumline/quorumline/sim/Server"), (0, .methodref 38 41), (0, .nameAndType 5 42), (0, u "(Lcom/example/quorumline/quorumline/sim/Calendar;Lcom/example/quorumline/quorumline/sim/Queues;)V"), (0, .fieldref 8 44), (0, .nameAndType 36 45), (0, u "Lcom/example/quorumline/quorumline/sim/Server;"), (0, .fieldref 8 47), (0, .nameAndType 48 45), (0, u "cpu"), (0, .class_ 50), (0, u "com/example/quorumline/quorumline/sim/Site$Step"), (25, .class_ 77), (0, u "com/example/quorumline/quorumline/sim/Site$1"), (7, .class_ 86), (0, u "com/example/quorumline/quorumline/sim/Site$2"), (12, u "(ILcom/example/quorumline/quorumline/sim/Layout$Group;Lcom/example/quorumline/quorumline/sim/Calendar;Lcom/example/quorumline/quorumline/sim/Queues;)V"), (7, u "()I"), (5, u "hasIo"), (0, u "()Lcom/example/quorumline/quorumline/sim/Server;")] 41

def k11c0 : Code := { maxStack := 5, maxLocals := 5, code := prog_94_method_1_code, exceptionTable := #[], attributes := #[] }
def k11m0 : Method := { name := "<init>", desc := "(ILcom/example/quorumline/quorumline/sim/Layout$Group;Lcom/example/quorumline/quorumline/sim/Calendar;Lcom/example/quorumline/quorumline/sim/Queues;)V", sig := { parameters := [.int, (.object "com/example/quorumline/quorumline/sim/Layout$Group"), (.object "com/example/quorumline/quorumline/sim/Calendar"), (.object "com/example/quorumline/quorumline/sim/Queues")], returnType := none }, accessFlags := 0, code := some k11c0 }
def k11c1 : Code := { maxStack := 1, maxLocals := 1, code := prog_94_method_2_code, exceptionTable := #[], attributes := #[] }
def k11m1 : Method := { name := "number", desc := "()I", sig := { parameters := [], returnType := some .int }, accessFlags := 1, code := some k11c1 }
def k11c2 : Code := { maxStack := 1, maxLocals := 1, code := prog_94_method_8_code, exceptionTable := #[], attributes := #[] }
def k11m2 : Method := { name := "hasIo", desc := "()Z", sig := { parameters := [], returnType := some .boolean }, accessFlags := 0, code := some k11c2 }
def k11c3 : Code := { maxStack := 1, maxLocals := 1, code := prog_94_method_9_code, exceptionTable := #[], attributes := #[] }
def k11m3 : Method := { name := "io", desc := "()Lcom/example/quorumline/quorumline/sim/Server;", sig := { parameters := [], returnType := some (.object "com/example/quorumline/quorumline/sim/Server") }, accessFlags := 0, code := some k11c3 }
def k11c4 : Code := { maxStack := 1, maxLocals := 1, code := prog_94_method_10_code, exceptionTable := #[], attributes := #[] }
def k11m4 : Method := { name := "cpu", desc := "()Lcom/example/quorumline/quorumline/sim/Server;", sig := { parameters := [], returnType := some (.object "com/example/quorumline/quorumline/sim/Server") }, accessFlags := 0, code := some k11c4 }
/-- com/example/quorumline/quorumline/sim/Site -/
def k11 : Class := { plain "com/example/quorumline/quorumline/sim/Site" (some 0) with
  accessFlags := 49
  interfaces := #[]
  cf := some (fileOf pool11 8 #[.nestMembers #[49, 85, 76]] #[{ accessFlags := 0, nameIndex := 5, descriptorIndex := 99, attributes := #[] }, { accessFlags := 1, nameIndex := 11, descriptorIndex := 107, attributes := #[] }, { accessFlags := 0, nameIndex := 113, descriptorIndex := 37, attributes := #[] }, { accessFlags := 0, nameIndex := 36, descriptorIndex := 114, attributes := #[] }, { accessFlags := 0, nameIndex := 48, descriptorIndex := 114, attributes := #[] }] 49 2 #[] #[{ accessFlags := 18, nameIndex := 11, descriptorIndex := 12, attributes := #[] }, { accessFlags := 18, nameIndex := 17, descriptorIndex := 21, attributes := #[] }, { accessFlags := 18, nameIndex := 24, descriptorIndex := 28, attributes := #[] }, { accessFlags := 18, nameIndex := 31, descriptorIndex := 28, attributes := #[] }, { accessFlags := 18, nameIndex := 36, descriptorIndex := 45, attributes := #[] }, { accessFlags := 18, nameIndex := 48, descriptorIndex := 45, attributes := #[] }])
  fields := #[{ name := "number", type := .int, accessFlags := 18, slot := 0, constantValue := 0 }, { name := "kind", type := (.object "java/lang/String"), accessFlags := 18, slot := 1, constantValue := 0 }, { name := "cpuSlice", type := .double, accessFlags := 18, slot := 2, constantValue := 0 }, { name := "messageCpu", type := .double, accessFlags := 18, slot := 3, constantValue := 0 }, { name := "io", type := (.object "com/example/quorumline/quorumline/sim/Server"), accessFlags := 18, slot := 4, constantValue := 0 }, { name := "cpu", type := (.object "com/example/quorumline/quorumline/sim/Server"), accessFlags := 18, slot := 5, constantValue := 0 }]
  methods := #[k11m0, k11m1, k11m2, k11m3, k11m4]
  instanceTypes := #[.int, (.object "java/lang/String"), .double, .double, (.object "com/example/quorumline/quorumline/sim/Server"), (.object "com/example/quorumline/quorumline/sim/Server")]
  staticTypes := #[]
  resolved := Array.replicate 156 none
  statics := none }

def pool12 : Array CpInfo := pool [(1, .methodref 2 3), (0, .class_ 4), (0, .nameAndType 5 6), (0, u "java/lang/Object"), (0, u "<init>"), (0, u "()V"), (0, .class_ 8), (0, u "java/util/ArrayDeque"), (0, .methodref 7 3), (0, .fieldref 11 12), (0, .class_ 13), (0, .nameAndType 14 15), (0, u "com/example/quorumline/quorumline/sim/Server"), (0, u "queue"), (0, u "Ljava/util/Queue;"), (0, .fieldref 11 17), (0, .nameAndType 18 19), (0, u "calendar"), (0, u "Lcom/example/quorumline/quorumline/sim/Calendar;"), (0, .fieldref 11 21), (0, .nameAndType 22 23), (0, u "queues"), (0, u "Lcom/example/quorumline/quorumline/sim/Queues;"), (0, .class_ 25), (0, u "com/example/quorumline/quorumline/sim/Level"), (0, .methodref 24 27), (0, .nameAndType 5 28), (0, u "(Lcom/example/quorumline/quorumline/sim/Calendar;)V"), (0, .fieldref 11 30), (0, .nameAndType 31 32), (0, u "busy"), (0, u "Lcom/example/quorumline/quorumline/sim/Level;"), (0, .class_ 34), (0, u "com/example/quorumline/quorumline/sim/Server$Queued"), (16, u "serving"), (0, u "Z"), (23, .class_ 78), (1, u "com/example/quorumline/quorumline/sim/Server$Request"), (24, u "(Lcom/example/quorumline/quorumline/sim/Calendar;Lcom/example/quorumline/quorumline/sim/Queues;)V")] 30

def k12c0 : Code := { maxStack := 4, maxLocals := 3, code := prog_91_method_1_code, exceptionTable := #[], attributes := #[] }
def k12m0 : Method := { name := "<init>", desc := "(Lcom/example/quorumline/quorumline/sim/Calendar;Lcom/example/quorumline/quorumline/sim/Queues;)V", sig := { parameters := [(.object "com/example/quorumline/quorumline/sim/Calendar"), (.object "com/example/quorumline/quorumline/sim/Queues")], returnType := none }, accessFlags := 0, code := some k12c0 }
/-- com/example/quorumline/quorumline/sim/Server -/
def k12 : Class := { plain "com/example/quorumline/quorumline/sim/Server" (some 0) with
  accessFlags := 48
  interfaces := #[]
  cf := some (fileOf pool12 11 #[.nestMembers #[33, 76]] #[{ accessFlags := 0, nameIndex := 5, descriptorIndex := 103, attributes := #[] }] 48 2 #[] #[{ accessFlags := 18, nameIndex := 18, descriptorIndex := 19, attributes := #[] }, { accessFlags := 18, nameIndex := 14, descriptorIndex := 15, attributes := #[] }, { accessFlags := 18, nameIndex := 22, descriptorIndex := 23, attributes := #[] }, { accessFlags := 18, nameIndex := 31, descriptorIndex := 32, attributes := #[] }, { accessFlags := 2, nameIndex := 51, descriptorIndex := 52, attributes := #[] }])
  fields := #[{ name := "calendar", type := (.object "com/example/quorumline/quorumline/sim/Calendar"), accessFlags := 18, slot := 0, constantValue := 0 }, { name := "queue", type := (.object "java/util/Queue"), accessFlags := 18, slot := 1, constantValue := 0 }, { name := "queues", type := (.object "com/example/quorumline/quorumline/sim/Queues"), accessFlags := 18, slot := 2, constantValue := 0 }, { name := "busy", type := (.object "com/example/quorumline/quorumline/sim/Level"), accessFlags := 18, slot := 3, constantValue := 0 }, { name := "serving", type := .boolean, accessFlags := 2, slot := 4, constantValue := 0 }]
  methods := #[k12m0]
  instanceTypes := #[(.object "com/example/quorumline/quorumline/sim/Calendar"), (.object "java/util/Queue"), (.object "com/example/quorumline/quorumline/sim/Queues"), (.object "com/example/quorumline/quorumline/sim/Level"), .boolean]
  staticTypes := #[]
  resolved := Array.replicate 134 none
  statics := none }

def pool13 : Array CpInfo := pool [(8, .class_ 10), (1, u "java/lang/Iterable"), (24, .class_ 36), (0, u "java/lang/Object")] 25

/-- java/lang/Iterable -/
def k13 : Class := { plain "java/lang/Iterable" (some 0) with
  accessFlags := 1537
  interfaces := #[]
  cf := some (fileOf pool13 8 #[] #[] 1537 35 #[] #[])
  fields := #[]
  methods := #[]
  instanceTypes := #[]
  staticTypes := #[]
  resolved := Array.replicate 62 none
  statics := none }

def pool14 : Array CpInfo := pool [(10, .class_ 12), (1, u "java/util/Collection"), (47, .class_ 61), (0, u "java/lang/Object"), (0, .class_ 63), (0, u "java/lang/Iterable")] 51

/-- java/util/Collection -/
def k14 : Class := { plain "java/util/Collection" (some 0) with
  accessFlags := 1537
  interfaces := #[13]
  cf := some (fileOf pool14 10 #[] #[] 1537 60 #[62] #[])
  fields := #[]
  methods := #[]
  instanceTypes := #[]
  staticTypes := #[]
  resolved := Array.replicate 115 none
  statics := none }

def pool15 : Array CpInfo := pool [(1, .methodref 2 3), (0, .class_ 4), (0, .nameAndType 5 6), (0, u "java/lang/Object"), (0, u "<init>"), (0, u "()V"), (1, .class_ 10), (1, u "java/util/AbstractCollection"), (66, .class_ 78), (0, u "java/util/Collection")] 81

def k15c0 : Code := { maxStack := 1, maxLocals := 1, code := jdk_22_method_1_code, exceptionTable := #[], attributes := #[] }
def k15m0 : Method := { name := "<init>", desc := "()V", sig := { parameters := [], returnType := none }, accessFlags := 4, code := some k15c0 }
/-- java/util/AbstractCollection -/
def k15 : Class := { plain "java/util/AbstractCollection" (some 0) with
  accessFlags := 1057
  interfaces := #[14]
  cf := some (fileOf pool15 8 #[] #[{ accessFlags := 4, nameIndex := 5, descriptorIndex := 6, attributes := #[] }] 1057 2 #[77] #[])
  fields := #[]
  methods := #[k15m0]
  instanceTypes := #[]
  staticTypes := #[]
  resolved := Array.replicate 160 none
  statics := none }

def pool16 : Array CpInfo := pool [(1, .class_ 2), (0, u "java/util/Queue"), (0, .class_ 4), (0, u "java/lang/Object"), (0, .class_ 6), (0, u "java/util/Collection")] 14

/-- java/util/Queue -/
def k16 : Class := { plain "java/util/Queue" (some 0) with
  accessFlags := 1537
  interfaces := #[14]
  cf := some (fileOf pool16 1 #[] #[] 1537 3 #[5] #[])
  fields := #[]
  methods := #[]
  instanceTypes := #[]
  staticTypes := #[]
  resolved := Array.replicate 21 none
  statics := none }

def pool17 : Array CpInfo := pool [(8, .class_ 10), (1, u "java/util/SequencedCollection"), (15, .class_ 27), (0, u "java/lang/Object"), (0, .class_ 29), (0, u "java/util/Collection")] 27

/-- java/util/SequencedCollection -/
def k17 : Class := { plain "java/util/SequencedCollection" (some 0) with
  accessFlags := 1537
  interfaces := #[14]
  cf := some (fileOf pool17 8 #[] #[] 1537 26 #[28] #[])
  fields := #[]
  methods := #[]
  instanceTypes := #[]
  staticTypes := #[]
  resolved := Array.replicate 57 none
  statics := none }

def pool18 : Array CpInfo := pool [(8, .class_ 10), (1, u "java/util/Deque"), (2, .class_ 14), (0, u "java/lang/Object"), (0, .class_ 16), (0, u "java/util/Queue"), (0, .class_ 18), (0, u "java/util/SequencedCollection")] 51

/-- java/util/Deque -/
def k18 : Class := { plain "java/util/Deque" (some 0) with
  accessFlags := 1537
  interfaces := #[16, 17]
  cf := some (fileOf pool18 8 #[] #[] 1537 13 #[15, 17] #[])
  fields := #[]
  methods := #[]
  instanceTypes := #[]
  staticTypes := #[]
  resolved := Array.replicate 70 none
  statics := none }

def pool19 : Array CpInfo := pool [(1, .class_ 2), (0, u "java/lang/Cloneable"), (0, .class_ 4), (0, u "java/lang/Object")] 2

/-- java/lang/Cloneable -/
def k19 : Class := { plain "java/lang/Cloneable" (some 0) with
  accessFlags := 1537
  interfaces := #[]
  cf := some (fileOf pool19 1 #[] #[] 1537 3 #[] #[])
  fields := #[]
  methods := #[]
  instanceTypes := #[]
  staticTypes := #[]
  resolved := Array.replicate 7 none
  statics := none }

def pool20 : Array CpInfo := pool [(3, .fieldref 4 5), (0, .class_ 6), (0, .nameAndType 7 8), (0, u "java/util/ArrayDeque"), (0, u "elements"), (0, u "[Ljava/lang/Object;"), (13, u "tail"), (0, u "I"), (2, u "head"), (12, u "<init>"), (2, .methodref 43 44), (0, .class_ 45), (0, .nameAndType 39 46), (0, u "java/util/AbstractCollection"), (0, u "()V"), (0, .class_ 48), (0, u "java/lang/Object"), (82, .class_ 132), (0, u "java/util/ArrayDeque$DeqIterator"), (3, .class_ 137), (0, u "java/util/ArrayDeque$DescendingIterator"), (1, .class_ 140), (0, u "java/util/ArrayDeque$DeqSpliterator"), (137, .class_ 279), (0, u "java/util/Deque"), (0, .class_ 281), (0, u "java/lang/Cloneable"), (0, .class_ 283), (0, u "java/io/Serializable"), (0, u "MAX_ARRAY_SIZE"), (1, u "serialVersionUID"), (0, u "J")] 150

def k20c0 : Code := { maxStack := 2, maxLocals := 1, code := jdk_21_method_3_code, exceptionTable := #[], attributes := #[] }
def k20m0 : Method := { name := "<init>", desc := "()V", sig := { parameters := [], returnType := none }, accessFlags := 1, code := some k20c0 }
/-- java/util/ArrayDeque -/
def k20 : Class := { plain "java/util/ArrayDeque" (some 15) with
  accessFlags := 33
  interfaces := #[18, 19, 2]
  cf := some (fileOf pool20 4 #[.nestMembers #[139, 136, 131]] #[{ accessFlags := 1, nameIndex := 39, descriptorIndex := 46, attributes := #[] }] 33 43 #[278, 280, 282] #[{ accessFlags := 128, nameIndex := 7, descriptorIndex := 8, attributes := #[] }, { accessFlags := 128, nameIndex := 26, descriptorIndex := 23, attributes := #[] }, { accessFlags := 128, nameIndex := 22, descriptorIndex := 23, attributes := #[] }, { accessFlags := 26, nameIndex := 284, descriptorIndex := 23, attributes := #[] }, { accessFlags := 26, nameIndex := 286, descriptorIndex := 287, attributes := #[] }])
  fields := #[{ name := "elements", type := (.array (.object "java/lang/Object")), accessFlags := 128, slot := 0, constantValue := 0 }, { name := "head", type := .int, accessFlags := 128, slot := 1, constantValue := 0 }, { name := "tail", type := .int, accessFlags := 128, slot := 2, constantValue := 0 }, { name := "MAX_ARRAY_SIZE", type := .int, accessFlags := 26, slot := 0, constantValue := 0 }, { name := "serialVersionUID", type := .long, accessFlags := 26, slot := 1, constantValue := 0 }]
  methods := #[k20m0]
  instanceTypes := #[(.array (.object "java/lang/Object")), .int, .int]
  staticTypes := #[.int, .long]
  resolved := Array.replicate 438 none
  statics := none }

def pool21 : Array CpInfo := pool [(1, .methodref 2 3), (0, .class_ 4), (0, .nameAndType 5 6), (0, u "java/lang/Object"), (0, u "<init>"), (0, u "()V"), (0, .fieldref 8 9), (0, .class_ 10), (0, .nameAndType 11 12), (0, u "com/example/quorumline/quorumline/sim/Moment"), (0, u "START"), (0, u "Lcom/example/quorumline/quorumline/sim/Moment;"), (0, .fieldref 14 15), (0, .class_ 16), (0, .nameAndType 17 12), (0, u "com/example/quorumline/quorumline/sim/Level"), (0, u "since"), (0, .fieldref 14 19), (0, .nameAndType 20 21), (0, u "calendar"), (0, u "Lcom/example/quorumline/quorumline/sim/Calendar;"), (6, u "before"), (0, u "D"), (8, u "count"), (0, u "J"), (4, u "(Lcom/example/quorumline/quorumline/sim/Calendar;)V")] 6

def k21c0 : Code := { maxStack := 2, maxLocals := 2, code := prog_78_method_1_code, exceptionTable := #[], attributes := #[] }
def k21m0 : Method := { name := "<init>", desc := "(Lcom/example/quorumline/quorumline/sim/Calendar;)V", sig := { parameters := [(.object "com/example/quorumline/quorumline/sim/Calendar")], returnType := none }, accessFlags := 0, code := some k21c0 }
/-- com/example/quorumline/quorumline/sim/Level -/
def k21 : Class := { plain "com/example/quorumline/quorumline/sim/Level" (some 0) with
  accessFlags := 49
  interfaces := #[]
  cf := some (fileOf pool21 14 #[] #[{ accessFlags := 0, nameIndex := 5, descriptorIndex := 44, attributes := #[] }] 49 2 #[] #[{ accessFlags := 18, nameIndex := 20, descriptorIndex := 21, attributes := #[] }, { accessFlags := 2, nameIndex := 38, descriptorIndex := 39, attributes := #[] }, { accessFlags := 2, nameIndex := 17, descriptorIndex := 12, attributes := #[] }, { accessFlags := 2, nameIndex := 28, descriptorIndex := 29, attributes := #[] }])
  fields := #[{ name := "calendar", type := (.object "com/example/quorumline/quorumline/sim/Calendar"), accessFlags := 18, slot := 0, constantValue := 0 }, { name := "count", type := .long, accessFlags := 2, slot := 1, constantValue := 0 }, { name := "since", type := (.object "com/example/quorumline/quorumline/sim/Moment"), accessFlags := 2, slot := 2, constantValue := 0 }, { name := "before", type := .double, accessFlags := 2, slot := 3, constantValue := 0 }]
  methods := #[k21m0]
  instanceTypes := #[(.object "com/example/quorumline/quorumline/sim/Calendar"), .long, (.object "com/example/quorumline/quorumline/sim/Moment"), .double]
  staticTypes := #[]
  resolved := Array.replicate 51 none
  statics := none }

def pool22 : Array CpInfo := pool [(2, .class_ 4), (1, u "java/lang/Object"), (3, .class_ 10), (1, u "com/example/quorumline/quorumline/sim/Moment"), (0, u "high"), (0, u "D"), (2, u "low"), (2, u "whole"), (0, u "Lcom/example/quorumline/quorumline/sim/Moment$Exact;"), (2, u "START"), (0, u "Lcom/example/quorumline/quorumline/sim/Moment;"), (31, .class_ 57), (1, u "com/example/quorumline/quorumline/sim/Moment$Exact"), (77, .class_ 136), (0, u "java/lang/Comparable"), (0, u "FRACTION"), (0, u "J"), (3, u "IMPLICIT"), (2, u "BIAS"), (0, u "I"), (1, u "KEPT")] 36

/-- com/example/quorumline/quorumline/sim/Moment -/
def k22 : Class := { plain "com/example/quorumline/quorumline/sim/Moment" (some 0) with
  accessFlags := 49
  interfaces := #[3]
  cf := some (fileOf pool22 8 #[.nestMembers #[55]] #[] 49 2 #[135] #[{ accessFlags := 25, nameIndex := 22, descriptorIndex := 23, attributes := #[] }, { accessFlags := 26, nameIndex := 137, descriptorIndex := 138, attributes := #[] }, { accessFlags := 26, nameIndex := 142, descriptorIndex := 138, attributes := #[] }, { accessFlags := 26, nameIndex := 145, descriptorIndex := 146, attributes := #[] }, { accessFlags := 26, nameIndex := 148, descriptorIndex := 146, attributes := #[] }, { accessFlags := 18, nameIndex := 11, descriptorIndex := 12, attributes := #[] }, { accessFlags := 18, nameIndex := 15, descriptorIndex := 12, attributes := #[] }, { accessFlags := 18, nameIndex := 18, descriptorIndex := 19, attributes := #[] }])
  fields := #[{ name := "START", type := (.object "com/example/quorumline/quorumline/sim/Moment"), accessFlags := 25, slot := 0, constantValue := 0 }, { name := "FRACTION", type := .long, accessFlags := 26, slot := 1, constantValue := 0 }, { name := "IMPLICIT", type := .long, accessFlags := 26, slot := 2, constantValue := 0 }, { name := "BIAS", type := .int, accessFlags := 26, slot := 3, constantValue := 0 }, { name := "KEPT", type := .int, accessFlags := 26, slot := 4, constantValue := 0 }, { name := "high", type := .double, accessFlags := 18, slot := 0, constantValue := 0 }, { name := "low", type := .double, accessFlags := 18, slot := 1, constantValue := 0 }, { name := "whole", type := (.object "com/example/quorumline/quorumline/sim/Moment$Exact"), accessFlags := 18, slot := 2, constantValue := 0 }]
  methods := #[]
  instanceTypes := #[.double, .double, (.object "com/example/quorumline/quorumline/sim/Moment$Exact")]
  staticTypes := #[(.object "com/example/quorumline/quorumline/sim/Moment"), .long, .long, .int, .int]
  resolved := Array.replicate 185 none
  statics := some 1 }

def pool23 : Array CpInfo := pool [(4, .class_ 6), (1, u "java/lang/Object"), (0, u "<init>"), (0, u "()V"), (5, .class_ 16), (1, u "java/lang/StringLatin1"), (104, u "$assertionsDisabled"), (0, u "Z"), (98, .class_ 223), (1, u "java/lang/StringLatin1$LinesSpliterator"), (166, .class_ 391), (0, u "java/lang/StringLatin1$CharsSpliterator")] 3

def k23m0 : Method := { name := "<init>", desc := "()V", sig := { parameters := [], returnType := none }, accessFlags := 0, code := none }
/-- java/lang/StringLatin1 -/
def k23 : Class := { plain "java/lang/StringLatin1" (some 0) with
  accessFlags := 48
  interfaces := #[]
  cf := some (fileOf pool23 14 #[.nestMembers #[390, 221]] #[{ accessFlags := 0, nameIndex := 7, descriptorIndex := 8, attributes := #[] }] 48 4 #[] #[{ accessFlags := 4120, nameIndex := 121, descriptorIndex := 122, attributes := #[] }])
  fields := #[{ name := "$assertionsDisabled", type := .boolean, accessFlags := 4120, slot := 0, constantValue := 0 }]
  methods := #[k23m0]
  instanceTypes := #[]
  staticTypes := #[.boolean]
  resolved := Array.replicate 395 none
  statics := none }

def pool24 : Array CpInfo := pool [(2, .class_ 4), (1, u "java/lang/Object"), (0, u "<init>"), (0, u "()V"), (17, .class_ 26), (1, u "jdk/internal/util/Preconditions"), (28, .class_ 56), (0, u "jdk/internal/util/Preconditions$4"), (57, .class_ 115), (0, u "jdk/internal/util/Preconditions$1"), (7, u "SIOOBE_FORMATTER"), (0, u "Ljava/util/function/BiFunction;"), (0, .class_ 126), (0, u "jdk/internal/util/Preconditions$2"), (3, u "AIOOBE_FORMATTER"), (0, .class_ 132), (0, u "jdk/internal/util/Preconditions$3"), (3, u "IOOBE_FORMATTER")] 57

def k24m0 : Method := { name := "<init>", desc := "()V", sig := { parameters := [], returnType := none }, accessFlags := 1, code := none }
/-- jdk/internal/util/Preconditions -/
def k24 : Class := { plain "jdk/internal/util/Preconditions" (some 0) with
  accessFlags := 33
  interfaces := #[]
  cf := some (fileOf pool24 24 #[.nestMembers #[55, 131, 125, 114]] #[{ accessFlags := 1, nameIndex := 5, descriptorIndex := 6, attributes := #[] }] 33 2 #[] #[{ accessFlags := 25, nameIndex := 123, descriptorIndex := 124, attributes := #[] }, { accessFlags := 25, nameIndex := 130, descriptorIndex := 124, attributes := #[] }, { accessFlags := 25, nameIndex := 136, descriptorIndex := 124, attributes := #[] }])
  fields := #[{ name := "SIOOBE_FORMATTER", type := (.object "java/util/function/BiFunction"), accessFlags := 25, slot := 0, constantValue := 0 }, { name := "AIOOBE_FORMATTER", type := (.object "java/util/function/BiFunction"), accessFlags := 25, slot := 1, constantValue := 0 }, { name := "IOOBE_FORMATTER", type := (.object "java/util/function/BiFunction"), accessFlags := 25, slot := 2, constantValue := 0 }]
  methods := #[k24m0]
  instanceTypes := #[]
  staticTypes := #[(.object "java/util/function/BiFunction"), (.object "java/util/function/BiFunction"), (.object "java/util/function/BiFunction")]
  resolved := Array.replicate 194 none
  statics := some 2 }

def pool25 : Array CpInfo := pool [(9, u "<init>"), (6, .class_ 18), (1, u "java/lang/Object"), (0, u "()V"), (1, .class_ 23), (1, u "jdk/internal/util/ArraysSupport"), (0, u "LOG2_ARRAY_LONG_INDEX_SCALE"), (0, u "I"), (2, u "U"), (0, u "Ljdk/internal/misc/Unsafe;"), (8, u "BIG_ENDIAN"), (0, u "Z"), (8, u "LOG2_BYTE_BIT_SIZE"), (4, u "LOG2_ARRAY_INT_INDEX_SCALE"), (54, u "JLA"), (0, u "Ljdk/internal/access/JavaLangAccess;"), (11, u "LOG2_ARRAY_BOOLEAN_INDEX_SCALE"), (9, u "LOG2_ARRAY_BYTE_INDEX_SCALE"), (5, u "LOG2_ARRAY_CHAR_INDEX_SCALE"), (5, u "LOG2_ARRAY_SHORT_INDEX_SCALE"), (18, u "LOG2_ARRAY_FLOAT_INDEX_SCALE"), (24, u "LOG2_ARRAY_DOUBLE_INDEX_SCALE"), (89, u "T_BOOLEAN"), (2, u "T_CHAR"), (1, u "T_FLOAT"), (1, u "T_DOUBLE"), (1, u "T_BYTE"), (1, u "T_SHORT"), (1, u "T_INT"), (1, u "T_LONG"), (1, u "SOFT_MAX_ARRAY_LENGTH")] 83

def k25m0 : Method := { name := "<init>", desc := "()V", sig := { parameters := [], returnType := none }, accessFlags := 2, code := none }
/-- jdk/internal/util/ArraysSupport -/
def k25 : Class := { plain "jdk/internal/util/ArraysSupport" (some 0) with
  accessFlags := 33
  interfaces := #[]
  cf := some (fileOf pool25 21 #[] #[{ accessFlags := 2, nameIndex := 9, descriptorIndex := 19, attributes := #[] }] 33 16 #[] #[{ accessFlags := 24, nameIndex := 28, descriptorIndex := 29, attributes := #[] }, { accessFlags := 26, nameIndex := 38, descriptorIndex := 39, attributes := #[] }, { accessFlags := 25, nameIndex := 121, descriptorIndex := 25, attributes := #[] }, { accessFlags := 25, nameIndex := 131, descriptorIndex := 25, attributes := #[] }, { accessFlags := 25, nameIndex := 137, descriptorIndex := 25, attributes := #[] }, { accessFlags := 25, nameIndex := 143, descriptorIndex := 25, attributes := #[] }, { accessFlags := 25, nameIndex := 53, descriptorIndex := 25, attributes := #[] }, { accessFlags := 25, nameIndex := 24, descriptorIndex := 25, attributes := #[] }, { accessFlags := 25, nameIndex := 162, descriptorIndex := 25, attributes := #[] }, { accessFlags := 25, nameIndex := 187, descriptorIndex := 25, attributes := #[] }, { accessFlags := 26, nameIndex := 48, descriptorIndex := 25, attributes := #[] }, { accessFlags := 25, nameIndex := 277, descriptorIndex := 25, attributes := #[] }, { accessFlags := 25, nameIndex := 280, descriptorIndex := 25, attributes := #[] }, { accessFlags := 25, nameIndex := 282, descriptorIndex := 25, attributes := #[] }, { accessFlags := 25, nameIndex := 284, descriptorIndex := 25, attributes := #[] }, { accessFlags := 25, nameIndex := 286, descriptorIndex := 25, attributes := #[] }, { accessFlags := 25, nameIndex := 288, descriptorIndex := 25, attributes := #[] }, { accessFlags := 25, nameIndex := 290, descriptorIndex := 25, attributes := #[] }, { accessFlags := 25, nameIndex := 292, descriptorIndex := 25, attributes := #[] }, { accessFlags := 26, nameIndex := 108, descriptorIndex := 109, attributes := #[] }, { accessFlags := 25, nameIndex := 294, descriptorIndex := 25, attributes := #[] }])
  fields := #[{ name := "U", type := (.object "jdk/internal/misc/Unsafe"), accessFlags := 24, slot := 0, constantValue := 0 }, { name := "BIG_ENDIAN", type := .boolean, accessFlags := 26, slot := 1, constantValue := 0 }, { name := "LOG2_ARRAY_BOOLEAN_INDEX_SCALE", type := .int, accessFlags := 25, slot := 2, constantValue := 0 }, { name := "LOG2_ARRAY_BYTE_INDEX_SCALE", type := .int, accessFlags := 25, slot := 3, constantValue := 0 }, { name := "LOG2_ARRAY_CHAR_INDEX_SCALE", type := .int, accessFlags := 25, slot := 4, constantValue := 0 }, { name := "LOG2_ARRAY_SHORT_INDEX_SCALE", type := .int, accessFlags := 25, slot := 5, constantValue := 0 }, { name := "LOG2_ARRAY_INT_INDEX_SCALE", type := .int, accessFlags := 25, slot := 6, constantValue := 0 }, { name := "LOG2_ARRAY_LONG_INDEX_SCALE", type := .int, accessFlags := 25, slot := 7, constantValue := 0 }, { name := "LOG2_ARRAY_FLOAT_INDEX_SCALE", type := .int, accessFlags := 25, slot := 8, constantValue := 0 }, { name := "LOG2_ARRAY_DOUBLE_INDEX_SCALE", type := .int, accessFlags := 25, slot := 9, constantValue := 0 }, { name := "LOG2_BYTE_BIT_SIZE", type := .int, accessFlags := 26, slot := 10, constantValue := 0 }, { name := "T_BOOLEAN", type := .int, accessFlags := 25, slot := 11, constantValue := 0 }, { name := "T_CHAR", type := .int, accessFlags := 25, slot := 12, constantValue := 0 }, { name := "T_FLOAT", type := .int, accessFlags := 25, slot := 13, constantValue := 0 }, { name := "T_DOUBLE", type := .int, accessFlags := 25, slot := 14, constantValue := 0 }, { name := "T_BYTE", type := .int, accessFlags := 25, slot := 15, constantValue := 0 }, { name := "T_SHORT", type := .int, accessFlags := 25, slot := 16, constantValue := 0 }, { name := "T_INT", type := .int, accessFlags := 25, slot := 17, constantValue := 0 }, { name := "T_LONG", type := .int, accessFlags := 25, slot := 18, constantValue := 0 }, { name := "JLA", type := (.object "jdk/internal/access/JavaLangAccess"), accessFlags := 26, slot := 19, constantValue := 0 }, { name := "SOFT_MAX_ARRAY_LENGTH", type := .int, accessFlags := 25, slot := 20, constantValue := 0 }]
  methods := #[k25m0]
  instanceTypes := #[]
  staticTypes := #[(.object "jdk/internal/misc/Unsafe"), .boolean, .int, .int, .int, .int, .int, .int, .int, .int, .int, .int, .int, .int, .int, .int, .int, .int, .int, (.object "jdk/internal/access/JavaLangAccess"), .int]
  resolved := Array.replicate 378 none
  statics := none }

/-- the primitive byte -/
def k26 : Class := { plain "byte" none with kind := .primitive 'B', accessFlags := 0x411 }
/-- [B -/
def k27 : Class := { plain "[B" (some 0) with kind := .array 26 .byte, interfaces := #[19, 2], accessFlags := 1041 }

/-- the primitive char -/
def k28 : Class := { plain "char" none with kind := .primitive 'C', accessFlags := 0x411 }
/-- [C -/
def k29 : Class := { plain "[C" (some 0) with kind := .array 28 .char, interfaces := #[19, 2], accessFlags := 1041 }

/-- the primitive int -/
def k30 : Class := { plain "int" none with kind := .primitive 'I', accessFlags := 0x411 }
/-- [I -/
def k31 : Class := { plain "[I" (some 0) with kind := .array 30 .int, interfaces := #[19, 2], accessFlags := 1041 }

/-- [Ljava/lang/Object; -/
def k32 : Class := { plain "[Ljava/lang/Object;" (some 0) with kind := .array 0 (.object "java/lang/Object"), interfaces := #[19, 2], accessFlags := 1041 }

def heap : Heap := #[{ cls := 7, slots := #[.long 0, .int 1, .null, .int 0, .null, .int 0, .int 0], vm := .statics 7 },
  { cls := 22, slots := #[.ref 3, .long 0, .long 0, .int 0, .int 0], vm := .statics 22 },
  { cls := 24, slots := #[.null, .null, .null], vm := .statics 24 },
  { cls := 22, slots := #[.double 0, .double 0, .null], vm := .none }]
def classes : Array Class := #[k0, k1, k2, k3, k4, k5, k6, k7, k8, k9, k10, k11, k12, k13, k14, k15, k16, k17, k18, k19, k20, k21, k22, k23, k24, k25, k26, k27, k28, k29, k30, k31, k32]
def interned : List (Array UInt16 × Addr) := []
def slotsUsed : Nat := 18
def theMethod : MethodId := ⟨1, 1⟩
def args0 : Array Value := #[.int 1, .int 3, .int 2, .int 2, .int 2]
def aboutOver (below : List Frame) : State where
  vm := { classes := classes, interned := interned.toArray }
  heap := heap
  slotsUsed := slotsUsed
  threads := #[{ frames := .invoking theMethod args0 :: below }]
def below0 : List Frame := [.native { method := ⟨0, 0⟩, args := #[] }]
def about1 : State := aboutOver below0
def p0 : Program := .bare "" "" ""
def e0 : Env := launch0.env 0 0 0
theorem w_frames : about1.frames = Frame.invoking theMethod args0 :: below0 := rfl
set_option maxRecDepth 65536 in
theorem w_args : argsFit about1.vm theMethod args0 = true := by decide +kernel
set_option maxRecDepth 65536 in
theorem w_heap : heapFits about1 = true := by decide +kernel
set_option maxRecDepth 65536 in
theorem w_runnable : about1.curStatus? = some .runnable := by decide +kernel
set_option maxRecDepth 65536 in
theorem w_alone : about1.alone = true := by decide +kernel
set_option maxRecDepth 65536 in
theorem w_named : about1.methodNamed? x = some theMethod := by decide +kernel
set_option maxRecDepth 65536 in
theorem w_hears : about1.hears theMethod below0 = true := by decide +kernel
set_option maxRecDepth 65536 in
theorem w_ripe : about1.ripe theMethod args0 below0 = true := by decide +kernel
theorem w_running : about1.status = .running := rfl
set_option maxRecDepth 65536 in
theorem w_room : about1.hasRoom e0.platform room_1 = true :=
  launch0.hasRoom_least _ room_1 (by decide +kernel) (by decide +kernel) (by decide +kernel) (by decide +kernel) (by decide +kernel) (by decide +kernel)
theorem allAtoms_all (ts : List Jvm.Cond) (a : Array Jvm.Value) (st : Jvm.State) : (allAtoms ts).before a st = ts.all (fun c => c.before a st) := by
  induction ts with
  | nil => rfl
  | cons c t ih =>
    show (Jvm.Cond.and c (allAtoms t)).before a st = _
    rw [Jvm.Cond.before_and, ih, List.all_cons]
def words1 : List Jvm.Cond := Jvm.Cond.code x code maxLocals ret :: tables_1
/-- a 'code' word, met by the world's own term for the bytes: nothing is compared byte by byte -/
theorem code_word {y : MethodName} {bytes : ByteArray} {mx : Nat} {rt : Option FieldType} {a : Array Value} {s : State} {m : MethodId} {meth : Method} {c : Code} (h1 : s.methodNamed? y = some m) (h2 : s.vm.method? m = some meth) (h3 : meth.code = some c) (h4 : c.code = bytes)
    (h5 : (c.maxLocals == mx && c.exceptionTable.isEmpty && decide (c.maxStack ≤ mostOperands) && decide (meth.sig.returnType = rt) && !meth.locks && decide (parseMethodDescriptor y.desc = some meth.sig)) = true) : (Jvm.Cond.code y bytes mx rt).before a s = true := by
  simp only [Bool.and_eq_true, beq_iff_eq, Bool.not_eq_true', decide_eq_true_eq] at h5
  obtain ⟨⟨⟨⟨⟨g1, g2⟩, g3⟩, g4⟩, g5⟩, g6⟩ := h5
  simp [Cond.before, Cond.holds, Cond.value, h1, h2, h3, h4, g1, g2, g3, g4, g5, g6]
def isCode : Jvm.Cond → Bool
  | .code _ _ _ _ => true
  | _ => false
theorem all_split {L : List Jvm.Cond} {P : Jvm.Cond → Bool} (h1 : L.all (fun c => isCode c || P c) = true) (h2 : ∀ c ∈ L.filter isCode, P c = true) : L.all P = true := by
  refine List.all_eq_true.mpr fun c hc => ?_
  have h := List.all_eq_true.mp h1 c hc
  rcases Bool.eq_false_or_eq_true (isCode c) with hi | hi
  · exact h2 c (List.mem_filter.mpr ⟨hc, hi⟩)
  · simpa [hi] using h
set_option maxRecDepth 65536 in
theorem w_c0 : (Jvm.Cond.code x code maxLocals ret).before args0 about1 = true := code_word (m := ⟨1, 1⟩) (meth := k1m1) (c := k1c1) (by decide +kernel) rfl rfl rfl (by decide +kernel)
set_option maxRecDepth 65536 in
theorem w_c1 : (Jvm.Cond.code ({ cls := "java/lang/String", name := "<init>", desc := "([C)V" } : Jvm.MethodName) jdk_42_method_3_code (2 : Nat) (Option.none : Option Jvm.ClassFile.FieldType)).before args0 about1 = true := code_word (m := ⟨7, 1⟩) (meth := k7m1) (c := k7c1) (by decide +kernel) rfl rfl rfl (by decide +kernel)
set_option maxRecDepth 65536 in
theorem w_c2 : (Jvm.Cond.code ({ cls := "java/lang/String", name := "<init>", desc := "([CIILjava/lang/Void;)V" } : Jvm.MethodName) jdk_42_method_149_code (6 : Nat) (Option.none : Option Jvm.ClassFile.FieldType)).before args0 about1 = true := code_word (m := ⟨7, 2⟩) (meth := k7m2) (c := k7c2) (by decide +kernel) rfl rfl rfl (by decide +kernel)
set_option maxRecDepth 65536 in
theorem w_c3 : (Jvm.Cond.code ({ cls := "java/lang/Object", name := "<init>", desc := "()V" } : Jvm.MethodName) object_method_1_code (1 : Nat) (Option.none : Option Jvm.ClassFile.FieldType)).before args0 about1 = true := code_word (m := ⟨0, 0⟩) (meth := k0m0) (c := k0c0) (by decide +kernel) rfl rfl rfl (by decide +kernel)
set_option maxRecDepth 65536 in
theorem w_c4 : (Jvm.Cond.code ({ cls := "java/lang/StringUTF16", name := "compress", desc := "([CII)[B" } : Jvm.MethodName) jdk_52_method_16_code (6 : Nat) (Option.some (Jvm.ClassFile.FieldType.array Jvm.ClassFile.FieldType.byte))).before args0 about1 = true := code_word (m := ⟨8, 2⟩) (meth := k8m2) (c := k8c2) (by decide +kernel) rfl rfl rfl (by decide +kernel)
set_option maxRecDepth 65536 in
theorem w_c5 : (Jvm.Cond.code ({ cls := "java/lang/StringUTF16", name := "compress", desc := "([CI[BII)I" } : Jvm.MethodName) jdk_52_method_21_code (7 : Nat) (Option.some Jvm.ClassFile.FieldType.int)).before args0 about1 = true := code_word (m := ⟨8, 3⟩) (meth := k8m3) (c := k8c3) (by decide +kernel) rfl rfl rfl (by decide +kernel)
set_option maxRecDepth 65536 in
theorem w_c6 : (Jvm.Cond.code ({ cls := "java/lang/StringUTF16", name := "coderFromArrayLen", desc := "([BI)B" } : Jvm.MethodName) jdk_52_method_15_code (2 : Nat) (Option.some Jvm.ClassFile.FieldType.byte)).before args0 about1 = true := code_word (m := ⟨8, 1⟩) (meth := k8m1) (c := k8c1) (by decide +kernel) rfl rfl rfl (by decide +kernel)
set_option maxRecDepth 65536 in
theorem w_c7 : (Jvm.Cond.code ({ cls := "com/example/quorumline/quorumline/sim/Layout$Group", name := "<init>", desc := "(Ljava/lang/String;IZDD)V" } : Jvm.MethodName) prog_77_method_1_code (8 : Nat) (Option.none : Option Jvm.ClassFile.FieldType)).before args0 about1 = true := code_word (m := ⟨10, 0⟩) (meth := k10m0) (c := k10c0) (by decide +kernel) rfl rfl rfl (by decide +kernel)
set_option maxRecDepth 65536 in
theorem w_c8 : (Jvm.Cond.code ({ cls := "java/lang/Record", name := "<init>", desc := "()V" } : Jvm.MethodName) jdk_30_method_1_code (1 : Nat) (Option.none : Option Jvm.ClassFile.FieldType)).before args0 about1 = true := code_word (m := ⟨9, 0⟩) (meth := k9m0) (c := k9c0) (by decide +kernel) rfl rfl rfl (by decide +kernel)
set_option maxRecDepth 65536 in
theorem w_c9 : (Jvm.Cond.code ({ cls := "com/example/quorumline/quorumline/sim/Site", name := "<init>", desc := "(ILcom/example/quorumline/quorumline/sim/Layout$Group;Lcom/example/quorumline/quorumline/sim/Calendar;Lcom/example/quorumline/quorumline/sim/Queues;)V" } : Jvm.MethodName) prog_94_method_1_code (5 : Nat) (Option.none : Option Jvm.ClassFile.FieldType)).before args0 about1 = true := code_word (m := ⟨11, 0⟩) (meth := k11m0) (c := k11c0) (by decide +kernel) rfl rfl rfl (by decide +kernel)
set_option maxRecDepth 65536 in
theorem w_c10 : (Jvm.Cond.code ({ cls := "com/example/quorumline/quorumline/sim/Layout$Group", name := "kind", desc := "()Ljava/lang/String;" } : Jvm.MethodName) prog_77_method_5_code (1 : Nat) (Option.some (Jvm.ClassFile.FieldType.object "java/lang/String"))).before args0 about1 = true := code_word (m := ⟨10, 1⟩) (meth := k10m1) (c := k10c1) (by decide +kernel) rfl rfl rfl (by decide +kernel)
set_option maxRecDepth 65536 in
theorem w_c11 : (Jvm.Cond.code ({ cls := "com/example/quorumline/quorumline/sim/Layout$Group", name := "cpuSlice", desc := "()D" } : Jvm.MethodName) prog_77_method_8_code (1 : Nat) (Option.some Jvm.ClassFile.FieldType.double)).before args0 about1 = true := code_word (m := ⟨10, 3⟩) (meth := k10m3) (c := k10c3) (by decide +kernel) rfl rfl rfl (by decide +kernel)
set_option maxRecDepth 65536 in
theorem w_c12 : (Jvm.Cond.code ({ cls := "com/example/quorumline/quorumline/sim/Layout$Group", name := "messageCpu", desc := "()D" } : Jvm.MethodName) prog_77_method_9_code (1 : Nat) (Option.some Jvm.ClassFile.FieldType.double)).before args0 about1 = true := code_word (m := ⟨10, 4⟩) (meth := k10m4) (c := k10c4) (by decide +kernel) rfl rfl rfl (by decide +kernel)
set_option maxRecDepth 65536 in
theorem w_c13 : (Jvm.Cond.code ({ cls := "com/example/quorumline/quorumline/sim/Layout$Group", name := "io", desc := "()Z" } : Jvm.MethodName) prog_77_method_7_code (1 : Nat) (Option.some Jvm.ClassFile.FieldType.boolean)).before args0 about1 = true := code_word (m := ⟨10, 2⟩) (meth := k10m2) (c := k10c2) (by decide +kernel) rfl rfl rfl (by decide +kernel)
set_option maxRecDepth 65536 in
theorem w_c14 : (Jvm.Cond.code ({ cls := "com/example/quorumline/quorumline/sim/Server", name := "<init>", desc := "(Lcom/example/quorumline/quorumline/sim/Calendar;Lcom/example/quorumline/quorumline/sim/Queues;)V" } : Jvm.MethodName) prog_91_method_1_code (3 : Nat) (Option.none : Option Jvm.ClassFile.FieldType)).before args0 about1 = true := code_word (m := ⟨12, 0⟩) (meth := k12m0) (c := k12c0) (by decide +kernel) rfl rfl rfl (by decide +kernel)
set_option maxRecDepth 65536 in
theorem w_c15 : (Jvm.Cond.code ({ cls := "java/util/ArrayDeque", name := "<init>", desc := "()V" } : Jvm.MethodName) jdk_21_method_3_code (1 : Nat) (Option.none : Option Jvm.ClassFile.FieldType)).before args0 about1 = true := code_word (m := ⟨20, 0⟩) (meth := k20m0) (c := k20c0) (by decide +kernel) rfl rfl rfl (by decide +kernel)
set_option maxRecDepth 65536 in
theorem w_c16 : (Jvm.Cond.code ({ cls := "java/util/AbstractCollection", name := "<init>", desc := "()V" } : Jvm.MethodName) jdk_22_method_1_code (1 : Nat) (Option.none : Option Jvm.ClassFile.FieldType)).before args0 about1 = true := code_word (m := ⟨15, 0⟩) (meth := k15m0) (c := k15c0) (by decide +kernel) rfl rfl rfl (by decide +kernel)
set_option maxRecDepth 65536 in
theorem w_c17 : (Jvm.Cond.code ({ cls := "com/example/quorumline/quorumline/sim/Level", name := "<init>", desc := "(Lcom/example/quorumline/quorumline/sim/Calendar;)V" } : Jvm.MethodName) prog_78_method_1_code (2 : Nat) (Option.none : Option Jvm.ClassFile.FieldType)).before args0 about1 = true := code_word (m := ⟨21, 0⟩) (meth := k21m0) (c := k21c0) (by decide +kernel) rfl rfl rfl (by decide +kernel)
set_option maxRecDepth 65536 in
theorem w_c18 : (Jvm.Cond.code ({ cls := "com/example/quorumline/quorumline/sim/Site", name := "hasIo", desc := "()Z" } : Jvm.MethodName) prog_94_method_8_code (1 : Nat) (Option.some Jvm.ClassFile.FieldType.boolean)).before args0 about1 = true := code_word (m := ⟨11, 2⟩) (meth := k11m2) (c := k11c2) (by decide +kernel) rfl rfl rfl (by decide +kernel)
set_option maxRecDepth 65536 in
theorem w_c19 : (Jvm.Cond.code ({ cls := "com/example/quorumline/quorumline/sim/Site", name := "io", desc := "()Lcom/example/quorumline/quorumline/sim/Server;" } : Jvm.MethodName) prog_94_method_9_code (1 : Nat) (Option.some (Jvm.ClassFile.FieldType.object "com/example/quorumline/quorumline/sim/Server"))).before args0 about1 = true := code_word (m := ⟨11, 3⟩) (meth := k11m3) (c := k11c3) (by decide +kernel) rfl rfl rfl (by decide +kernel)
set_option maxRecDepth 65536 in
theorem w_c20 : (Jvm.Cond.code ({ cls := "com/example/quorumline/quorumline/sim/Site", name := "cpu", desc := "()Lcom/example/quorumline/quorumline/sim/Server;" } : Jvm.MethodName) prog_94_method_10_code (1 : Nat) (Option.some (Jvm.ClassFile.FieldType.object "com/example/quorumline/quorumline/sim/Server"))).before args0 about1 = true := code_word (m := ⟨11, 4⟩) (meth := k11m4) (c := k11c4) (by decide +kernel) rfl rfl rfl (by decide +kernel)
set_option maxRecDepth 65536 in
theorem w_c21 : (Jvm.Cond.code ({ cls := "com/example/quorumline/quorumline/sim/Site", name := "number", desc := "()I" } : Jvm.MethodName) prog_94_method_2_code (1 : Nat) (Option.some Jvm.ClassFile.FieldType.int)).before args0 about1 = true := code_word (m := ⟨11, 1⟩) (meth := k11m1) (c := k11c1) (by decide +kernel) rfl rfl rfl (by decide +kernel)
def codes1 : List Jvm.Cond := [Jvm.Cond.code x code maxLocals ret, Jvm.Cond.code ({ cls := "java/lang/String", name := "<init>", desc := "([C)V" } : Jvm.MethodName) jdk_42_method_3_code (2 : Nat) (Option.none : Option Jvm.ClassFile.FieldType), Jvm.Cond.code ({ cls := "java/lang/String", name := "<init>", desc := "([CIILjava/lang/Void;)V" } : Jvm.MethodName) jdk_42_method_149_code (6 : Nat) (Option.none : Option Jvm.ClassFile.FieldType), Jvm.Cond.code ({ cls := "java/lang/Object", name := "<init>", desc := "()V" } : Jvm.MethodName) object_method_1_code (1 : Nat) (Option.none : Option Jvm.ClassFile.FieldType), Jvm.Cond.code ({ cls := "java/lang/StringUTF16", name := "compress", desc := "([CII)[B" } : Jvm.MethodName) jdk_52_method_16_code (6 : Nat) (Option.some (Jvm.ClassFile.FieldType.array Jvm.ClassFile.FieldType.byte)), Jvm.Cond.code ({ cls := "java/lang/StringUTF16", name := "compress", desc := "([CI[BII)I" } : Jvm.MethodName) jdk_52_method_21_code (7 : Nat) (Option.some Jvm.ClassFile.FieldType.int), Jvm.Cond.code ({ cls := "java/lang/StringUTF16", name := "coderFromArrayLen", desc := "([BI)B" } : Jvm.MethodName) jdk_52_method_15_code (2 : Nat) (Option.some Jvm.ClassFile.FieldType.byte), Jvm.Cond.code ({ cls := "com/example/quorumline/quorumline/sim/Layout$Group", name := "<init>", desc := "(Ljava/lang/String;IZDD)V" } : Jvm.MethodName) prog_77_method_1_code (8 : Nat) (Option.none : Option Jvm.ClassFile.FieldType), Jvm.Cond.code ({ cls := "java/lang/Record", name := "<init>", desc := "()V" } : Jvm.MethodName) jdk_30_method_1_code (1 : Nat) (Option.none : Option Jvm.ClassFile.FieldType), Jvm.Cond.code ({ cls := "com/example/quorumline/quorumline/sim/Site", name := "<init>", desc := "(ILcom/example/quorumline/quorumline/sim/Layout$Group;Lcom/example/quorumline/quorumline/sim/Calendar;Lcom/example/quorumline/quorumline/sim/Queues;)V" } : Jvm.MethodName) prog_94_method_1_code (5 : Nat) (Option.none : Option Jvm.ClassFile.FieldType), Jvm.Cond.code ({ cls := "com/example/quorumline/quorumline/sim/Layout$Group", name := "kind", desc := "()Ljava/lang/String;" } : Jvm.MethodName) prog_77_method_5_code (1 : Nat) (Option.some (Jvm.ClassFile.FieldType.object "java/lang/String")), Jvm.Cond.code ({ cls := "com/example/quorumline/quorumline/sim/Layout$Group", name := "cpuSlice", desc := "()D" } : Jvm.MethodName) prog_77_method_8_code (1 : Nat) (Option.some Jvm.ClassFile.FieldType.double), Jvm.Cond.code ({ cls := "com/example/quorumline/quorumline/sim/Layout$Group", name := "messageCpu", desc := "()D" } : Jvm.MethodName) prog_77_method_9_code (1 : Nat) (Option.some Jvm.ClassFile.FieldType.double), Jvm.Cond.code ({ cls := "com/example/quorumline/quorumline/sim/Layout$Group", name := "io", desc := "()Z" } : Jvm.MethodName) prog_77_method_7_code (1 : Nat) (Option.some Jvm.ClassFile.FieldType.boolean), Jvm.Cond.code ({ cls := "com/example/quorumline/quorumline/sim/Server", name := "<init>", desc := "(Lcom/example/quorumline/quorumline/sim/Calendar;Lcom/example/quorumline/quorumline/sim/Queues;)V" } : Jvm.MethodName) prog_91_method_1_code (3 : Nat) (Option.none : Option Jvm.ClassFile.FieldType), Jvm.Cond.code ({ cls := "java/util/ArrayDeque", name := "<init>", desc := "()V" } : Jvm.MethodName) jdk_21_method_3_code (1 : Nat) (Option.none : Option Jvm.ClassFile.FieldType), Jvm.Cond.code ({ cls := "java/util/AbstractCollection", name := "<init>", desc := "()V" } : Jvm.MethodName) jdk_22_method_1_code (1 : Nat) (Option.none : Option Jvm.ClassFile.FieldType), Jvm.Cond.code ({ cls := "com/example/quorumline/quorumline/sim/Level", name := "<init>", desc := "(Lcom/example/quorumline/quorumline/sim/Calendar;)V" } : Jvm.MethodName) prog_78_method_1_code (2 : Nat) (Option.none : Option Jvm.ClassFile.FieldType), Jvm.Cond.code ({ cls := "com/example/quorumline/quorumline/sim/Site", name := "hasIo", desc := "()Z" } : Jvm.MethodName) prog_94_method_8_code (1 : Nat) (Option.some Jvm.ClassFile.FieldType.boolean), Jvm.Cond.code ({ cls := "com/example/quorumline/quorumline/sim/Site", name := "io", desc := "()Lcom/example/quorumline/quorumline/sim/Server;" } : Jvm.MethodName) prog_94_method_9_code (1 : Nat) (Option.some (Jvm.ClassFile.FieldType.object "com/example/quorumline/quorumline/sim/Server")), Jvm.Cond.code ({ cls := "com/example/quorumline/quorumline/sim/Site", name := "cpu", desc := "()Lcom/example/quorumline/quorumline/sim/Server;" } : Jvm.MethodName) prog_94_method_10_code (1 : Nat) (Option.some (Jvm.ClassFile.FieldType.object "com/example/quorumline/quorumline/sim/Server")), Jvm.Cond.code ({ cls := "com/example/quorumline/quorumline/sim/Site", name := "number", desc := "()I" } : Jvm.MethodName) prog_94_method_2_code (1 : Nat) (Option.some Jvm.ClassFile.FieldType.int)]
set_option maxRecDepth 65536 in
theorem codes_eq : words1.filter isCode = codes1 := rfl
theorem w_codes : ∀ c ∈ words1.filter isCode, c.before args0 about1 = true := by
  rw [codes_eq]
  intro c hc
  simp only [codes1, List.mem_cons, List.not_mem_nil, or_false] at hc
  rcases hc with rfl | rfl | rfl | rfl | rfl | rfl | rfl | rfl | rfl | rfl | rfl | rfl | rfl | rfl | rfl | rfl | rfl | rfl | rfl | rfl | rfl | rfl
  · exact w_c0
  · exact w_c1
  · exact w_c2
  · exact w_c3
  · exact w_c4
  · exact w_c5
  · exact w_c6
  · exact w_c7
  · exact w_c8
  · exact w_c9
  · exact w_c10
  · exact w_c11
  · exact w_c12
  · exact w_c13
  · exact w_c14
  · exact w_c15
  · exact w_c16
  · exact w_c17
  · exact w_c18
  · exact w_c19
  · exact w_c20
  · exact w_c21
set_option maxRecDepth 65536 in
theorem w_t1 : (words1.take 24).all (fun c => isCode c || c.before args0 about1) = true := by decide +kernel
set_option maxRecDepth 65536 in
theorem w_t2 : ((words1.drop 24).take 24).all (fun c => isCode c || c.before args0 about1) = true := by decide +kernel
set_option maxRecDepth 65536 in
theorem w_t3 : (((words1.drop 24).drop 24).take 24).all (fun c => isCode c || c.before args0 about1) = true := by decide +kernel
set_option maxRecDepth 65536 in
theorem w_t4 : ((((words1.drop 24).drop 24).drop 24).take 24).all (fun c => isCode c || c.before args0 about1) = true := by decide +kernel
set_option maxRecDepth 65536 in
theorem w_t5 : (((((words1.drop 24).drop 24).drop 24).drop 24).take 24).all (fun c => isCode c || c.before args0 about1) = true := by decide +kernel
set_option maxRecDepth 65536 in
theorem w_t6 : ((((((words1.drop 24).drop 24).drop 24).drop 24).drop 24).take 24).all (fun c => isCode c || c.before args0 about1) = true := by decide +kernel
set_option maxRecDepth 65536 in
theorem w_t7 : ((((((words1.drop 24).drop 24).drop 24).drop 24).drop 24).drop 24).all (fun c => isCode c || c.before args0 about1) = true := by decide +kernel
theorem w_tables : (allAtoms (Jvm.Cond.code x code maxLocals ret :: tables_1)).before args0 about1 = true := by
  rw [allAtoms_all]
  show words1.all (fun c => c.before args0 about1) = true
  refine all_split ?_ w_codes
  rw [← List.take_append_drop 24 words1, List.all_append, w_t1, ← List.take_append_drop 24 (words1.drop 24), List.all_append, w_t2, ← List.take_append_drop 24 ((words1.drop 24).drop 24), List.all_append, w_t3, ← List.take_append_drop 24 (((words1.drop 24).drop 24).drop 24), List.all_append, w_t4, ← List.take_append_drop 24 ((((words1.drop 24).drop 24).drop 24).drop 24), List.all_append, w_t5, ← List.take_append_drop 24 (((((words1.drop 24).drop 24).drop 24).drop 24).drop 24), List.all_append, w_t6, w_t7]
  rfl
set_option maxRecDepth 65536 in
theorem w_rest : rest_1_c.before args0 about1 = true := by decide +kernel
set_option maxRecDepth 65536 in
theorem w_case : (Jvm.Cond.and given_1 narrow_1).before args0 about1 = true := by decide +kernel
theorem w_applies : (headSpec (Jvm.Cond.code x code maxLocals ret :: tables_1) room_1).applies x e0.platform about1 = true :=
  (Spec.applies_iff w_frames).mpr ⟨w_running, w_runnable, w_alone, w_named, w_hears, w_ripe, w_room, w_tables⟩
theorem atStart : AtStart classFile x code maxLocals ret World_1 tables_1 room_1 Calls_1 rest_1 Pre_1 launch0 p0 e0 about1 theMethod args0 below0 :=
  ⟨lists_1, trivial, launch0.admits_env _ _ _, launch0.least_env, fairChoices_fair.cas, fairChoices_fair.clock, w_frames, w_args, w_heap, w_applies, trivial, w_rest, w_case⟩
end start1
theorem witness_1 : WitnessClaimed_1 := ⟨start1.p0, start1.e0, start1.about1, start1.theMethod, start1.args0, start1.below0, start1.atStart⟩
end Jvm.Pilot.@@N@@
