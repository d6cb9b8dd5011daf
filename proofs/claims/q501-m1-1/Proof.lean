import JvmDerived
import JvmDerived.Pilot.@@N@@Statement
import JvmDerived.Pilot.@@N@@Code
set_option linter.unusedVariables false
set_option linter.unusedSimpArgs false
/- laws to paste: Road.backV (cut by pick.py; bodies as the Statement names them) -/
namespace Jvm.Pilot.@@N@@
namespace StrChars
open Jvm Sem ClassFile Op Lib Jvm.Stand Jvm.Free.XT Jvm.Free.ALB Jvm.Free.JM Jvm.Free
open Jvm.Lib.Cold (StaticIs)
/-- a char array whose places are chars -/
def Ch (a : Addr) (A : Cell) (U : State) : Prop := Arr .char a A U ∧ Typed .char A
theorem Ch.mv {a : Addr} {A : Cell} {U U' : State} (h : Ch a A U) (hal : U.vm.Alike U'.vm) (hh : U'.heap = U.heap) : Ch a A U' := ⟨h.1.mv hal hh, h.2⟩
theorem Ch.keep {a : Addr} {A : Cell} {U U' : State} (h : Ch a A U) (hal : U.vm.Alike U'.vm) (hk : U'.heap[a]? = some A) : Ch a A U' := ⟨h.1.keep hal hk, h.2⟩
/-- what place i of a char[]'s cell holds -/
def cv (A : Cell) (i : Nat) : Int32 := match A.slots[i]? with | some (.int x) => x | _ => 0
theorem Ch.get {a : Addr} {A : Cell} {U : State} (h : Ch a A U) {i : Nat} (hi : i < A.slots.size) : A.slots[i]? = some (.int (cv A i)) := by
  have e := Array.getElem?_eq_getElem hi
  have f := h.2 i _ e
  unfold cv; rw [e]
  generalize A.slots[i] = v at f
  cases v <;> simp [fits] at f ⊢
/-- the byte that i2b leaves of a char -/
def lo8 (x : Int32) : Int32 := x.toInt8.toInt32
theorem fits_lo8 (y : Int32) : fits .byte (.int (lo8 y)) = true := by
  have h1 := y.toInt8.le_toInt
  have h2 := y.toInt8.toInt_lt
  simp only [lo8, fits, Bool.and_eq_true, decide_eq_true_eq, Int32.le_iff_toInt_le, Int8.toInt_toInt32, show (-128 : Int32).toInt = -128 from by decide, show (127 : Int32).toInt = 127 from by decide]
  omega
/-- A' is A but that each place j of lo .. hi - 1 holds f j -/
def Laid (A A' : Cell) (lo hi : Nat) (f : Nat → Value) : Prop := A'.cls = A.cls ∧ A'.vm = A.vm ∧ A'.slots.size = A.slots.size ∧ ∀ i, A'.slots[i]? = if lo ≤ i ∧ i < hi then some (f i) else A.slots[i]?
theorem Laid.zero (A : Cell) (lo : Nat) (f : Nat → Value) : Laid A A lo (lo + 0) f := ⟨rfl, rfl, rfl, fun i => by rw [if_neg (by omega)]⟩
theorem Laid.step {A Ak : Cell} {lo k : Nat} {f : Nat → Value} {v : Value} (h : Laid A Ak lo k f) (hlo : lo ≤ k) (hk : k < Ak.slots.size) (hv : v = f k) : Laid A (Ak.setSlot k v) lo (k + 1) f := by
  refine ⟨h.1, h.2.1, by simpa [Cell.setSlot] using h.2.2.1, fun i => ?_⟩
  by_cases e : k = i
  · subst e; rw [Cell.slots_setSlot_self v hk, if_pos (by omega), hv]
  · rw [Cell.slots_setSlot_ne v e, h.2.2.2 i]
    by_cases q : lo ≤ i ∧ i < k
    · rw [if_pos q, if_pos (by omega)]
    · rw [if_neg q, if_neg (by omega)]
def U16 : String := "java/lang/StringUTF16"
namespace Cmp5
def yN : MethodName := ⟨"java/lang/StringUTF16", "compress", "([CI[BII)I"⟩
abbrev yB : ByteArray := jdk_52_method_21_code
theorem d0 : decode yB 0 = .ok (.iconst 0, 1) := by decide +kernel
theorem d1 : decode yB 1 = .ok (.istore 5, 2) := by decide +kernel
theorem d3 : decode yB 3 = .ok (.iload 5, 2) := by decide +kernel
theorem d5 : decode yB 5 = .ok (.iload 4, 2) := by decide +kernel
theorem d7 : decode yB 7 = .ok (.if_icmp (.ge) 37, 3) := by decide +kernel
theorem d10 : decode yB 10 = .ok (.aload_n 0, 1) := by decide +kernel
theorem d11 : decode yB 11 = .ok (.iload_n 1, 1) := by decide +kernel
theorem d12 : decode yB 12 = .ok (.caload, 1) := by decide +kernel
theorem d13 : decode yB 13 = .ok (.istore 6, 2) := by decide +kernel
theorem d15 : decode yB 15 = .ok (.iload 6, 2) := by decide +kernel
theorem d17 : decode yB 17 = .ok (.sipush 255, 3) := by decide +kernel
theorem d20 : decode yB 20 = .ok (.if_icmp (.le) 6, 3) := by decide +kernel
theorem d26 : decode yB 26 = .ok (.aload_n 2, 1) := by decide +kernel
theorem d27 : decode yB 27 = .ok (.iload_n 3, 1) := by decide +kernel
theorem d28 : decode yB 28 = .ok (.iload 6, 2) := by decide +kernel
theorem d30 : decode yB 30 = .ok (.i2b, 1) := by decide +kernel
theorem d31 : decode yB 31 = .ok (.bastore, 1) := by decide +kernel
theorem d32 : decode yB 32 = .ok (.iinc 1 1, 3) := by decide +kernel
theorem d35 : decode yB 35 = .ok (.iinc 3 1, 3) := by decide +kernel
theorem d38 : decode yB 38 = .ok (.iinc 5 1, 3) := by decide +kernel
theorem d41 : decode yB 41 = .ok (.goto (-38), 3) := by decide +kernel
theorem d44 : decode yB 44 = .ok (.iload 4, 2) := by decide +kernel
theorem d46 : decode yB 46 = .ok (.ireturn, 1) := by decide +kernel
def site : List Cond := []
def tab : Cond := tabOf yN yB 7 (some .int) site
def P (b : Addr) (A : Cell) (d : Addr) (B : Cell) (o q len : Nat) (args : Array Value) (s : State) : Prop := args = #[.ref b, .int (Int32.ofNat o), .ref d, .int (Int32.ofNat q), .int (Int32.ofNat len)] ∧ Ch b A s ∧ Arr .byte d B s ∧ b ≠ d ∧ o + len ≤ A.slots.size ∧ q + len ≤ B.slots.size ∧ ∀ i, i < len → ¬ 255 < cv A (o + i)
def E (b : Addr) (A : Cell) (d : Addr) (B : Cell) (o q len : Nat) (r : Option Value) (s u : State) : Prop := r = some (.int (Int32.ofNat len)) ∧ ∃ B', Put d B' s u ∧ Laid B B' q (q + len) (fun j => Value.int (lo8 (cv A (o + (j - q)))))
/-- no char of the range above 255: len; the places written hold each char's low byte -/
theorem law (l : Launch) (b : Addr) (A : Cell) (d : Addr) (B : Cell) (o q len : Nat) : Law l yN 5 5 0 0 yB 7 (some .int) site (P b A d B o q len) (E b A d B o q len) (copyLocs d q len) 0 0 := by
  refine Law.of_walk (plainFor_of_name (by decide +kernel)) (by decide +kernel) (by decide +kernel) (by decide) (fun _ _ h => by rw [h.1]; rfl) (fun _ U U' hal hh h => ⟨h.1, h.2.1.mv hal hh, h.2.2.1.mv hal hh, h.2.2.2⟩) (fun r U U' V V' h1 hal h2 h => ⟨h.1, h.2.elim fun B' q => ⟨B', q.1.mv h1 h2, q.2⟩⟩) ?_
  intro p e s m args below meth c s₁ X0 hexec hbytes hml hret hlk hnm hown hh0 W hP
  obtain ⟨rfl, hA, hB, hne, l1, l2, hp⟩ := hP
  have c1 : Steps p.tables e below (s₁.setTop (entryFrame m #[.ref b, .int (Int32.ofNat o), .ref d, .int (Int32.ofNat q), .int (Int32.ofNat len)] 7)) (s₁.setTop (mkF m 0 #[.val (.ref b), .val (.int (Int32.ofNat o)), .val (.ref d), .val (.int (Int32.ofNat q)), .val (.int (Int32.ofNat len)), .unset, .unset] [])) := entry rfl
  have hA0 := hA.1.mv X0.warmed.alike hh0
  have hB0 := hB.mv X0.warmed.alike hh0
  have a31 := hA.1.2.2.2
  have c2 : Steps p.tables e below (s₁.setTop (entryFrame m #[.ref b, .int (Int32.ofNat o), .ref d, .int (Int32.ofNat q), .int (Int32.ofNat len)] 7)) (s₁.setTop (mkF m 3 #[.val (.ref b), .val (.int (Int32.ofNat o)), .val (.ref d), .val (.int (Int32.ofNat q)), .val (.int (Int32.ofNat len)), .val (.int 0), .unset] [])) := c1.trans (by
    refine iconstV X0.here hexec rfl 0 (hb hbytes d0) (by decide) ?_
    refine XS.istore X0.here hexec rfl (hb hbytes d1) rfl rfl ?_
    exact Steps.refl _)
  have loop : ∀ (r i : Nat), i + r = len → ∀ (z : Slot), (z = .unset ∨ ∃ w, z = .val w ∧ w.category = 1) → ∀ (Tl : State) (Bk : Cell), Stand p l e { frames := 0, locals := 0, cells := 0, slots := 0 } s m #[.ref b, .int (Int32.ofNat o), .ref d, .int (Int32.ofNat q), .int (Int32.ofNat len)] below meth c Tl ([] ++ copyLocs d q i) 0 0 → Put d Bk s₁ Tl → Laid B Bk q (q + i) (fun j => Value.int (lo8 (cv A (o + (j - q))))) →
      Steps p.tables e below (s₁.setTop (entryFrame m #[.ref b, .int (Int32.ofNat o), .ref d, .int (Int32.ofNat q), .int (Int32.ofNat len)] 7)) (Tl.setTop (mkF m 3 #[.val (.ref b), .val (.int (Int32.ofNat (o + i))), .val (.ref d), .val (.int (Int32.ofNat (q + i))), .val (.int (Int32.ofNat len)), .val (.int (Int32.ofNat i)), z] [])) → ∃ (T' : State) (B' : Cell) (z' : Slot), Stand p l e { frames := 0, locals := 0, cells := 0, slots := 0 } s m #[.ref b, .int (Int32.ofNat o), .ref d, .int (Int32.ofNat q), .int (Int32.ofNat len)] below meth c T' ([] ++ copyLocs d q len) 0 0 ∧ Put d B' s₁ T' ∧ Laid B B' q (q + len) (fun j => Value.int (lo8 (cv A (o + (j - q))))) ∧
      Steps p.tables e below (s₁.setTop (entryFrame m #[.ref b, .int (Int32.ofNat o), .ref d, .int (Int32.ofNat q), .int (Int32.ofNat len)] 7)) (T'.setTop (mkF m 3 #[.val (.ref b), .val (.int (Int32.ofNat (o + len))), .val (.ref d), .val (.int (Int32.ofNat (q + len))), .val (.int (Int32.ofNat len)), .val (.int (Int32.ofNat len)), z'] [])) := by
    intro r
    induction r with
    | zero =>
      intro i hi z hz Tl Bk Xl pl fl cl
      have hil : i = len := by omega
      rw [hil] at Xl fl cl
      exact ⟨Tl, Bk, z, Xl, pl, fl, cl⟩
    | succ r ih =>
      intro i hi z hz Tl Bk Xl pl fl cl
      have all := X0.warmed.alike.symm.trans Xl.warmed.alike
      have hAl := hA0.keep all (pl.other hne hA0.1)
      have hBk := hB0.like all pl.1 fl.1 fl.2.1 fl.2.2.1
      have hlt : q + i < Bk.slots.size := by rw [fl.2.2.1]; omega
      have c3 : Steps p.tables e below (s₁.setTop (entryFrame m #[.ref b, .int (Int32.ofNat o), .ref d, .int (Int32.ofNat q), .int (Int32.ofNat len)] 7)) (Tl.setTop (mkF m 12 #[.val (.ref b), .val (.int (Int32.ofNat (o + i))), .val (.ref d), .val (.int (Int32.ofNat (q + i))), .val (.int (Int32.ofNat len)), .val (.int (Int32.ofNat i)), z] [.int (Int32.ofNat (o + i)), .ref b])) := cl.trans (by
        refine XS.iload Xl.here hexec rfl (hb hbytes d3) rfl ?_
        refine XS.iload Xl.here hexec rfl (hb hbytes d5) rfl ?_
        refine XS.icmpNo Xl.here hexec rfl (hb hbytes d7) rfl (ii_ge_f (lt32 (by omega) (by omega))) ?_
        refine XS.aloadN Xl.here hexec rfl (hb hbytes d10) rfl rfl ?_
        refine XS.iloadN Xl.here hexec rfl (hb hbytes d11) rfl ?_
        exact Steps.refl _)
      have c4 : Steps p.tables e below (s₁.setTop (entryFrame m #[.ref b, .int (Int32.ofNat o), .ref d, .int (Int32.ofNat q), .int (Int32.ofNat len)] 7)) (Tl.setTop (mkF m 13 #[.val (.ref b), .val (.int (Int32.ofNat (o + i))), .val (.ref d), .val (.int (Int32.ofNat (q + i))), .val (.int (Int32.ofNat len)), .val (.int (Int32.ofNat i)), z] [.int (cv A (o + i))])) := c3.trans (by
        refine Xl.aget hexec hAl rfl (hA.get (i := o + i) (by omega)) rfl rfl (hb hbytes d12) ?_
        exact Steps.refl _)
      have c5 : Steps p.tables e below (s₁.setTop (entryFrame m #[.ref b, .int (Int32.ofNat o), .ref d, .int (Int32.ofNat q), .int (Int32.ofNat len)] 7)) (Tl.setTop (mkF m 15 #[.val (.ref b), .val (.int (Int32.ofNat (o + i))), .val (.ref d), .val (.int (Int32.ofNat (q + i))), .val (.int (Int32.ofNat len)), .val (.int (Int32.ofNat i)), .val (.int (cv A (o + i)))] [])) := c4.trans (by
        refine XS.istoreS Xl.here hexec rfl (hb hbytes d13) rfl rfl hz ?_
        exact Steps.refl _)
      have c6 : Steps p.tables e below (s₁.setTop (entryFrame m #[.ref b, .int (Int32.ofNat o), .ref d, .int (Int32.ofNat q), .int (Int32.ofNat len)] 7)) (Tl.setTop (mkF m 31 #[.val (.ref b), .val (.int (Int32.ofNat (o + i))), .val (.ref d), .val (.int (Int32.ofNat (q + i))), .val (.int (Int32.ofNat len)), .val (.int (Int32.ofNat i)), .val (.int (cv A (o + i)))] [.int (lo8 (cv A (o + i))), .int (Int32.ofNat (q + i)), .ref d])) := c5.trans (by
        refine XS.iload Xl.here hexec rfl (hb hbytes d15) rfl ?_
        refine sipushV Xl.here hexec rfl 255 (hb hbytes d17) (by decide) ?_
        refine XS.icmpYes Xl.here hexec rfl (pc0 := 20) rfl (hb hbytes d20) rfl (ii_le_t (hp i (by omega))) (by decide) rfl ?_
        refine XS.aloadN Xl.here hexec rfl (hb hbytes d26) rfl rfl ?_
        refine XS.iloadN Xl.here hexec rfl (hb hbytes d27) rfl ?_
        refine XS.iload Xl.here hexec rfl (hb hbytes d28) rfl ?_
        refine i2b Xl.here hexec rfl (hb hbytes d30) rfl ?_
        exact Steps.refl _)
      obtain ⟨T7, X7, p7, st7⟩ := Xl.aput hexec hBk rfl hlt rfl (fits_lo8 (cv A (o + i))) (g := (mkF m 31 #[.val (.ref b), .val (.int (Int32.ofNat (o + i))), .val (.ref d), .val (.int (Int32.ofNat (q + i))), .val (.int (Int32.ofNat len)), .val (.int (Int32.ofNat i)), .val (.int (cv A (o + i)))] [.int (lo8 (cv A (o + i))), .int (Int32.ofNat (q + i)), .ref d])) rfl (rest := []) rfl (hb hbytes d31)
      have c8 : Steps p.tables e below (s₁.setTop (entryFrame m #[.ref b, .int (Int32.ofNat o), .ref d, .int (Int32.ofNat q), .int (Int32.ofNat len)] 7)) (T7.setTop (mkF m 32 #[.val (.ref b), .val (.int (Int32.ofNat (o + i))), .val (.ref d), .val (.int (Int32.ofNat (q + i))), .val (.int (Int32.ofNat len)), .val (.int (Int32.ofNat i)), .val (.int (cv A (o + i)))] [])) := c6.trans (st7 _ (Steps.refl _))
      have c9 : Steps p.tables e below (s₁.setTop (entryFrame m #[.ref b, .int (Int32.ofNat o), .ref d, .int (Int32.ofNat q), .int (Int32.ofNat len)] 7)) (T7.setTop (mkF m 3 #[.val (.ref b), .val (.int (Int32.ofNat (o + i) + 1)), .val (.ref d), .val (.int (Int32.ofNat (q + i) + 1)), .val (.int (Int32.ofNat len)), .val (.int (Int32.ofNat i + 1)), .val (.int (cv A (o + i)))] [])) := c8.trans (by
        refine iincV X7.here hexec rfl 1 (hb hbytes d32) (by decide) rfl rfl ?_
        refine iincV X7.here hexec rfl 1 (hb hbytes d35) (by decide) rfl rfl ?_
        refine iincV X7.here hexec rfl 1 (hb hbytes d38) (by decide) rfl rfl ?_
        refine XS.goto X7.here hexec rfl (pc0 := 41) rfl (hb hbytes d41) (by decide) rfl ?_
        exact Steps.refl _)
      have c10 : Steps p.tables e below (s₁.setTop (entryFrame m #[.ref b, .int (Int32.ofNat o), .ref d, .int (Int32.ofNat q), .int (Int32.ofNat len)] 7)) (T7.setTop (mkF m 3 #[.val (.ref b), .val (.int (Int32.ofNat (o + (i + 1)))), .val (.ref d), .val (.int (Int32.ofNat (q + (i + 1)))), .val (.int (Int32.ofNat len)), .val (.int (Int32.ofNat (i + 1))), .val (.int (cv A (o + i)))] [])) := by
        have := c9
        rw [succ32, succ32, succ32] at this
        exact this
      exact ih (i + 1) (by omega) _ (Or.inr ⟨_, rfl, rfl⟩) T7 _ (by rw [copyLocs_step, ← List.append_assoc]; exact X7) (pl.trans p7) (fl.step (by omega) hlt (by simp)) c10
  obtain ⟨T9, B9, z9, X9, p9, f9, g9⟩ := loop len 0 (by omega) .unset (Or.inl rfl) s₁ B (by simpa [copyLocs] using X0) ⟨hB0.1, fun _ _ => rfl, rfl⟩ (Laid.zero _ _ _) c2
  have c11 : Steps p.tables e below (s₁.setTop (entryFrame m #[.ref b, .int (Int32.ofNat o), .ref d, .int (Int32.ofNat q), .int (Int32.ofNat len)] 7)) (T9.setTop (mkF m 46 #[.val (.ref b), .val (.int (Int32.ofNat (o + len))), .val (.ref d), .val (.int (Int32.ofNat (q + len))), .val (.int (Int32.ofNat len)), .val (.int (Int32.ofNat len)), z9] [.int (Int32.ofNat len)])) := g9.trans (by
    refine XS.iload X9.here hexec rfl (hb hbytes d3) rfl ?_
    refine XS.iload X9.here hexec rfl (hb hbytes d5) rfl ?_
    refine XS.icmpYes X9.here hexec rfl (pc0 := 7) rfl (hb hbytes d7) rfl (ii_ge_t (nlt32 (by omega) (Nat.le_refl _))) (by decide) rfl ?_
    refine XS.iload X9.here hexec rfl (hb hbytes d44) rfl ?_
    exact Steps.refl _)
  exact ⟨T9, some (.int (Int32.ofNat len)), _, _, _, X9, by simp, rfl, rfl, (fun h => by cases h), ⟨rfl, B9, p9.from hh0, f9⟩, fun fs hl => c11.trans (X9.ireturnOut hexec hret rfl (Or.inl rfl) (hb hbytes d46) hl)⟩
end Cmp5
namespace Cmp3
def yN : MethodName := ⟨"java/lang/StringUTF16", "compress", "([CII)[B"⟩
abbrev yB : ByteArray := jdk_52_method_16_code
theorem d0 : decode yB 0 = .ok (.iload_n 2, 1) := by decide +kernel
theorem d1 : decode yB 1 = .ok (.newarray .byte, 2) := by decide +kernel
theorem d3 : decode yB 3 = .ok (.astore_n 3, 1) := by decide +kernel
theorem d4 : decode yB 4 = .ok (.aload_n 0, 1) := by decide +kernel
theorem d5 : decode yB 5 = .ok (.iload_n 1, 1) := by decide +kernel
theorem d6 : decode yB 6 = .ok (.aload_n 3, 1) := by decide +kernel
theorem d7 : decode yB 7 = .ok (.iconst 0, 1) := by decide +kernel
theorem d8 : decode yB 8 = .ok (.iload_n 2, 1) := by decide +kernel
theorem d9 : decode yB 9 = .ok (.invokestatic 115, 3) := by decide +kernel
theorem d12 : decode yB 12 = .ok (.istore 4, 2) := by decide +kernel
theorem d14 : decode yB 14 = .ok (.iload 4, 2) := by decide +kernel
theorem d16 : decode yB 16 = .ok (.iload_n 2, 1) := by decide +kernel
theorem d17 : decode yB 17 = .ok (.if_icmp (.eq) 40, 3) := by decide +kernel
theorem d57 : decode yB 57 = .ok (.aload_n 3, 1) := by decide +kernel
theorem d58 : decode yB 58 = .ok (.areturn, 1) := by decide +kernel
def site : List Cond := [.arrayClass .byte, Cmp5.tab] ++ staticW U16 115 Cmp5.yN
def tab : Cond := tabOf yN yB 6 (some (.array .byte)) site
def P (b : Addr) (A : Cell) (o len : Nat) (args : Array Value) (s : State) : Prop := args = #[.ref b, .int (Int32.ofNat o), .int (Int32.ofNat len)] ∧ Ch b A s ∧ o + len ≤ A.slots.size ∧ len ≤ 536870912 ∧ ∀ i, i < len → ¬ 255 < cv A (o + i)
def E (b : Addr) (A : Cell) (o len : Nat) (r : Option Value) (s u : State) : Prop := NewArr .byte "[B" len (fun j => .int (lo8 (cv A (o + j)))) r s u ∧ u.heap.size = s.heap.size + 1
/-- no char of the range above 255: a new byte[] of their low bytes -/
theorem law (l : Launch) (b : Addr) (A : Cell) (o len : Nat) : Law l yN 3 3 1 18 yB 6 (some (.array .byte)) site (P b A o len) (E b A o len) [] 1 len := by
  refine Law.of_walk (plainFor_of_name (by decide +kernel)) (by decide +kernel) (by decide +kernel) (by decide) (fun _ _ h => by rw [h.1]; rfl) (fun _ U U' hal hh h => ⟨h.1, h.2.1.mv hal hh, h.2.2⟩) (fun r U U' V V' h1 hal h2 h => ⟨NewArr.mv r U U' V V' h1 hal h2 h.1, by rw [h1, h2]; exact h.2⟩) ?_
  intro p e s m args below meth c s₁ X0 hexec hbytes hml hret hlk hnm hown hh0 W hP
  obtain ⟨rfl, hA, l1, l2, hp⟩ := hP
  have a31 := hA.1.2.2.2
  have c1 : Steps p.tables e below (s₁.setTop (entryFrame m #[.ref b, .int (Int32.ofNat o), .int (Int32.ofNat len)] 6)) (s₁.setTop (mkF m 0 #[.val (.ref b), .val (.int (Int32.ofNat o)), .val (.int (Int32.ofNat len)), .unset, .unset, .unset] [])) := entry rfl
  have c2 : Steps p.tables e below (s₁.setTop (entryFrame m #[.ref b, .int (Int32.ofNat o), .int (Int32.ofNat len)] 6)) (s₁.setTop (mkF m 1 #[.val (.ref b), .val (.int (Int32.ofNat o)), .val (.int (Int32.ofNat len)), .unset, .unset, .unset] [.int (Int32.ofNat len)])) := c1.trans (by
    refine XS.iloadN X0.here hexec rfl (hb hbytes d0) rfl ?_
    exact Steps.refl _)
  obtain ⟨T3, B3, X3, ba3, bs3, bv3, bh3, bf3, st3⟩ := X0.anew hexec (atype := .byte) (wk W (.arrayClass .byte)) rfl (by show len * 1 ≤ _; omega) (by omega) (g := (mkF m 1 #[.val (.ref b), .val (.int (Int32.ofNat o)), .val (.int (Int32.ofNat len)), .unset, .unset, .unset] [.int (Int32.ofNat len)])) rfl (hb hbytes d1) (rest := []) rfl (Nat.le_refl _) (by show 0 + len ≤ len; omega)
  rw [hh0] at ba3 st3
  have kp3 : XT.Kept s T3 := (XT.Kept.of_eq hh0).push bh3
  have hA3 := hA.keep X3.warmed.alike (kp3 _ _ hA.1.1)
  have hne : b ≠ s.heap.size := hA.1.ne
  have c4 : Steps p.tables e below (s₁.setTop (entryFrame m #[.ref b, .int (Int32.ofNat o), .int (Int32.ofNat len)] 6)) (T3.setTop (mkF m 3 #[.val (.ref b), .val (.int (Int32.ofNat o)), .val (.int (Int32.ofNat len)), .unset, .unset, .unset] [.ref s.heap.size])) := c2.trans (st3 _ (Steps.refl _))
  have c5 : Steps p.tables e below (s₁.setTop (entryFrame m #[.ref b, .int (Int32.ofNat o), .int (Int32.ofNat len)] 6)) (T3.setTop (mkF m 9 #[.val (.ref b), .val (.int (Int32.ofNat o)), .val (.int (Int32.ofNat len)), .val (.ref s.heap.size), .unset, .unset] [.int (Int32.ofNat len), .int 0, .ref s.heap.size, .int (Int32.ofNat o), .ref b])) := c4.trans (by
    refine XS.astoreN X3.here hexec rfl (hb hbytes d3) rfl rfl rfl ?_
    refine XS.aloadN X3.here hexec rfl (hb hbytes d4) rfl rfl ?_
    refine XS.iloadN X3.here hexec rfl (hb hbytes d5) rfl ?_
    refine XS.aloadN X3.here hexec rfl (hb hbytes d6) rfl rfl ?_
    refine iconstV X3.here hexec rfl 0 (hb hbytes d7) (by decide) ?_
    refine XS.iloadN X3.here hexec rfl (hb hbytes d8) rfl ?_
    exact Steps.refl _)
  obtain ⟨v6, T6, X6, E6, g6⟩ := X3.callS hexec (Cmp5.law l b A s.heap.size B3 o 0 len) hown (wks W (staticW U16 115 Cmp5.yN)) (wk W Cmp5.tab) (W := 0) (Nat.le_of_ble_eq_true rfl) (Nat.le_of_ble_eq_true rfl) (Nat.le_refl _) (by show 0 + len + 0 ≤ len; omega) (g := (mkF m 9 #[.val (.ref b), .val (.int (Int32.ofNat o)), .val (.int (Int32.ofNat len)), .val (.ref s.heap.size), .unset, .unset] [.int (Int32.ofNat len), .int (Int32.ofNat 0), .ref s.heap.size, .int (Int32.ofNat o), .ref b])) rfl (by rw [hml]; rfl) c5 (argsL := [.ref b, .int (Int32.ofNat o), .ref s.heap.size, .int (Int32.ofNat 0), .int (Int32.ofNat len)]) (rest := []) rfl rfl (by show 2 * 0 + 0 ≤ _; decide) (hb hbytes d9) (⟨rfl, hA3, ba3, hne, l1, by rw [bs3]; simp, hp⟩)
  obtain ⟨rfl, B6, p6, f6⟩ := E6
  have c7 : Steps p.tables e below (s₁.setTop (entryFrame m #[.ref b, .int (Int32.ofNat o), .int (Int32.ofNat len)] 6)) (T6.setTop (mkF m 12 #[.val (.ref b), .val (.int (Int32.ofNat o)), .val (.int (Int32.ofNat len)), .val (.ref s.heap.size), .unset, .unset] [.int (Int32.ofNat len)])) := g6
  have c8 : Steps p.tables e below (s₁.setTop (entryFrame m #[.ref b, .int (Int32.ofNat o), .int (Int32.ofNat len)] 6)) (T6.setTop (mkF m 58 #[.val (.ref b), .val (.int (Int32.ofNat o)), .val (.int (Int32.ofNat len)), .val (.ref s.heap.size), .val (.int (Int32.ofNat len)), .unset] [.ref s.heap.size])) := c7.trans (by
    refine XS.istore X6.here hexec rfl (hb hbytes d12) rfl rfl ?_
    refine XS.iload X6.here hexec rfl (hb hbytes d14) rfl ?_
    refine XS.iloadN X6.here hexec rfl (hb hbytes d16) rfl ?_
    refine XS.icmpYes X6.here hexec rfl (pc0 := 17) rfl (hb hbytes d17) rfl (ii_eq_t rfl) (by decide) rfl ?_
    refine XS.aloadN X6.here hexec rfl (hb hbytes d57) rfl rfl ?_
    exact Steps.refl _)
  have X8 := X6.wide (L' := []) (cells' := 1) (slots' := len) (fun x hx hlt => by
    simp only [List.nil_append, copyLocs, List.mem_map, List.mem_range] at hx
    obtain ⟨i, -, rfl⟩ := hx
    exact absurd hlt (Nat.lt_irrefl _)) (Nat.le_refl _) (by omega)
  exact ⟨T6, some (.ref s.heap.size), _, _, _, X8, rfl, rfl, rfl, (fun h => by cases h), ⟨⟨rfl, B6, ba3.like (X3.warmed.alike.symm.trans X6.warmed.alike) p6.1 f6.1 f6.2.1 f6.2.2.1, f6.2.1.trans bv3, by rw [X6.warmed.alike.findClass, f6.1]; exact bf3, by rw [f6.2.2.1, bs3]; simp, fun j hj => by rw [f6.2.2.2 j, if_pos (by omega)]; rfl, kp3.put p6 (Nat.le_refl _)⟩, by rw [p6.2.2, bh3, hh0]; simp⟩, fun fs hl => c8.trans (X8.areturnOut hexec rfl hret rfl (hb hbytes d58) hl)⟩
end Cmp3
namespace CodL
def yN : MethodName := ⟨"java/lang/StringUTF16", "coderFromArrayLen", "([BI)B"⟩
abbrev yB : ByteArray := jdk_52_method_15_code
theorem d0 : decode yB 0 = .ok (.iload_n 1, 1) := by decide +kernel
theorem d1 : decode yB 1 = .ok (.aload_n 0, 1) := by decide +kernel
theorem d2 : decode yB 2 = .ok (.arraylength, 1) := by decide +kernel
theorem d3 : decode yB 3 = .ok (.isub, 1) := by decide +kernel
theorem d4 : decode yB 4 = .ok (.bipush 31, 2) := by decide +kernel
theorem d6 : decode yB 6 = .ok (.iushr, 1) := by decide +kernel
theorem d7 : decode yB 7 = .ok (.i2b, 1) := by decide +kernel
theorem d8 : decode yB 8 = .ok (.ireturn, 1) := by decide +kernel
def site : List Cond := []
def tab : Cond := tabOf yN yB 2 (some .byte) site
def P (d : Addr) (B : Cell) (args : Array Value) (s : State) : Prop := args = #[.ref d, .int (Int32.ofNat B.slots.size)] ∧ Arr .byte d B s
def E (r : Option Value) (s u : State) : Prop := XT.PureE (some (.int 0)) r s u
/-- an array as long as the number of chars: LATIN1 -/
theorem law (l : Launch) (d : Addr) (B : Cell) : Law l yN 2 2 0 0 yB 2 (some .byte) site (P d B) E [] 0 0 := by
  refine Law.of_walk (plainFor_of_name (by decide +kernel)) (by decide +kernel) (by decide +kernel) (by decide) (fun _ _ h => by rw [h.1]; rfl) (fun _ U U' hal hh h => ⟨h.1, h.2.mv hal hh⟩) (fun r U U' V V' h1 hal h2 h => XT.PureE.mv r U U' V V' h1 hal h2 h) ?_
  intro p e s m args below meth c s₁ X0 hexec hbytes hml hret hlk hnm hown hh0 W hP
  obtain ⟨rfl, hB⟩ := hP
  have hB0 := hB.mv X0.warmed.alike hh0
  have c1 : Steps p.tables e below (s₁.setTop (entryFrame m #[.ref d, .int (Int32.ofNat B.slots.size)] 2)) (s₁.setTop (mkF m 0 #[.val (.ref d), .val (.int (Int32.ofNat B.slots.size))] [])) := entry rfl
  have c2 : Steps p.tables e below (s₁.setTop (entryFrame m #[.ref d, .int (Int32.ofNat B.slots.size)] 2)) (s₁.setTop (mkF m 2 #[.val (.ref d), .val (.int (Int32.ofNat B.slots.size))] [.ref d, .int (Int32.ofNat B.slots.size)])) := c1.trans (by
    refine XS.iloadN X0.here hexec rfl (hb hbytes d0) rfl ?_
    refine XS.aloadN X0.here hexec rfl (hb hbytes d1) rfl rfl ?_
    exact Steps.refl _)
  have c3 : Steps p.tables e below (s₁.setTop (entryFrame m #[.ref d, .int (Int32.ofNat B.slots.size)] 2)) (s₁.setTop (mkF m 8 #[.val (.ref d), .val (.int (Int32.ofNat B.slots.size))] [.int (lo8 (ushr (Int32.ofNat B.slots.size - Int32.ofNat B.slots.size) 31))])) := c2.trans (by
    refine X0.alen hexec hB0 rfl rfl (hb hbytes d2) ?_
    refine XS.isub X0.here hexec rfl (hb hbytes d3) rfl ?_
    refine bipushV X0.here hexec rfl 31 (hb hbytes d4) (by decide) ?_
    refine iushr X0.here hexec rfl (hb hbytes d6) rfl ?_
    refine i2b X0.here hexec rfl (hb hbytes d7) rfl ?_
    exact Steps.refl _)
  have e0 : lo8 (ushr (Int32.ofNat B.slots.size - Int32.ofNat B.slots.size) 31) = 0 := by rw [Int32.sub_self]; decide
  rw [e0] at c3
  exact ⟨s₁, some (.int 0), _, _, _, X0, rfl, rfl, rfl, (fun h => by cases h), ⟨rfl, hh0⟩, fun fs hl => c3.trans (X0.ireturnOut hexec hret rfl (Or.inr (Or.inr (Or.inl rfl))) (hb hbytes d8) hl)⟩
end CodL
/-- the String at a is Latin-1 over a new byte[] (the heap's one new cell): the low bytes of the len chars of A from o on; every cell but a is kept -/
def Got (a : Addr) (D : Cell) (fV fC : Field) (A : Cell) (o len : Nat) (r : Option Value) (s u : State) : Prop := r = none ∧ ∃ D' V : Cell, Blank "java/lang/String" a D' u ∧ Same D D' [fV.slot, fC.slot] ∧ D'.slots[fV.slot]? = some (.ref s.heap.size) ∧ D'.slots[fC.slot]? = some (.int 0) ∧ Arr .byte s.heap.size V u ∧ V.vm = .none ∧ u.vm.findClass "[B" = some V.cls ∧ V.slots.size = len ∧ (∀ j, j < len → V.slots[j]? = some (.int (lo8 (cv A (o + j))))) ∧ (∀ (y : Addr) (c : Cell), y ≠ a → s.heap[y]? = some c → u.heap[y]? = some c) ∧ u.heap.size = s.heap.size + 1
theorem Got.mv {a : Addr} {D A : Cell} {fV fC : Field} {o len : Nat} : ∀ r (U U' V V' : State), U'.heap = U.heap → V.vm.Alike V'.vm → V'.heap = V.heap → Got a D fV fC A o len r U V → Got a D fV fC A o len r U' V' :=
  fun r U U' V V' h1 hal h2 ⟨e0, D', X, a1, a2, a3, a4, a5, a6, a7, a8, a9, a10, a11⟩ => ⟨e0, D', X, a1.mv hal h2, a2, by rw [h1]; exact a3, a4, by rw [h1]; exact a5.mv hal h2, a6, by rw [hal.findClass]; exact a7, a8, a9, by rw [h1, h2]; exact a10, by rw [h1, h2]; exact a11⟩
namespace New4
def yN : MethodName := ⟨"java/lang/String", "<init>", "([CIILjava/lang/Void;)V"⟩
abbrev yB : ByteArray := jdk_42_method_149_code
theorem d0 : decode yB 0 = .ok (.aload_n 0, 1) := by decide +kernel
theorem d1 : decode yB 1 = .ok (.invokespecial 1, 3) := by decide +kernel
theorem d4 : decode yB 4 = .ok (.iload_n 3, 1) := by decide +kernel
theorem d5 : decode yB 5 = .ok (.ifCond (.ne) 22, 3) := by decide +kernel
theorem d27 : decode yB 27 = .ok (.getstatic 38, 3) := by decide +kernel
theorem d30 : decode yB 30 = .ok (.ifCond (.eq) 28, 3) := by decide +kernel
theorem d33 : decode yB 33 = .ok (.aload_n 1, 1) := by decide +kernel
theorem d34 : decode yB 34 = .ok (.iload_n 2, 1) := by decide +kernel
theorem d35 : decode yB 35 = .ok (.iload_n 3, 1) := by decide +kernel
theorem d36 : decode yB 36 = .ok (.invokestatic 177, 3) := by decide +kernel
theorem d39 : decode yB 39 = .ok (.astore 5, 2) := by decide +kernel
theorem d41 : decode yB 41 = .ok (.aload_n 0, 1) := by decide +kernel
theorem d42 : decode yB 42 = .ok (.aload 5, 2) := by decide +kernel
theorem d44 : decode yB 44 = .ok (.iload_n 3, 1) := by decide +kernel
theorem d45 : decode yB 45 = .ok (.invokestatic 47, 3) := by decide +kernel
theorem d48 : decode yB 48 = .ok (.putfield 15, 3) := by decide +kernel
theorem d51 : decode yB 51 = .ok (.aload_n 0, 1) := by decide +kernel
theorem d52 : decode yB 52 = .ok (.aload 5, 2) := by decide +kernel
theorem d54 : decode yB 54 = .ok (.putfield 9, 3) := by decide +kernel
theorem d57 : decode yB 57 = .ok (.return_, 1) := by decide +kernel
def site : List Cond := [.fieldLink "java/lang/String" 38 "java/lang/String" "COMPACT_STRINGS" "Z", Cmp3.tab, CodL.tab, .laysFinal "java/lang/String" "java/lang/String" "value" "[B", .fieldLink "java/lang/String" 9 "java/lang/String" "value" "[B", .laysFinal "java/lang/String" "java/lang/String" "coder" "B", .fieldLink "java/lang/String" 15 "java/lang/String" "coder" "B"] ++ objW "java/lang/String" 1 ++ staticW "java/lang/String" 177 Cmp3.yN ++ staticW "java/lang/String" 47 CodL.yN
def tab : Cond := tabOf yN yB 6 none site
def P (a : Addr) (D : Cell) (fV fC : Field) (b : Addr) (A : Cell) (z : Int32) (o len : Nat) (args : Array Value) (s : State) : Prop := args = #[.ref a, .ref b, .int (Int32.ofNat o), .int (Int32.ofNat len), .null] ∧ Blank "java/lang/String" a D s ∧ Found "java/lang/String" "value" "[B" fV s ∧ Found "java/lang/String" "coder" "B" fC s ∧ Ch b A s ∧ StaticIs s "java/lang/String" "COMPACT_STRINGS" "Z" (.int z) ∧ ¬ z = 0 ∧ 0 < len ∧ o + len ≤ A.slots.size ∧ len ≤ 536870912 ∧ ∀ i, i < len → ¬ 255 < cv A (o + i)
def E (a : Addr) (D : Cell) (fV fC : Field) (A : Cell) (o len : Nat) (r : Option Value) (s u : State) : Prop := Got a D fV fC A o len r s u
/-- len > 0, no char of the range above 255: a Latin-1 String of their low bytes -/
theorem law (l : Launch) (a : Addr) (D : Cell) (fV fC : Field) (b : Addr) (A : Cell) (z : Int32) (o len : Nat) : Law l yN 5 4 2 35 yB 6 none site (P a D fV fC b A z o len) (E a D fV fC A o len) [⟨a, fC.slot⟩, ⟨a, fV.slot⟩] 1 len := by
  refine Law.of_walk (plainFor_of_name (by decide +kernel)) (by decide +kernel) (by decide +kernel) (by decide) (fun _ _ h => by rw [h.1]; rfl) (fun _ U U' hal hh h => ⟨h.1, h.2.1.mv hal hh, h.2.2.1.al hal, h.2.2.2.1.al hal, h.2.2.2.2.1.mv hal hh, h.2.2.2.2.2.1.there hal hh, h.2.2.2.2.2.2⟩) (fun r U U' V V' h1 hal h2 h => Got.mv r U U' V V' h1 hal h2 h) ?_
  intro p e s m args below meth c s₁ X0 hexec hbytes hml hret hlk hnm hown hh0 W hP
  obtain ⟨rfl, hB, f1, f2, hA, s1, hz, l0, l1, l2, hp⟩ := hP
  have a31 := hA.1.2.2.2
  have c1 : Steps p.tables e below (s₁.setTop (entryFrame m #[.ref a, .ref b, .int (Int32.ofNat o), .int (Int32.ofNat len), .null] 6)) (s₁.setTop (mkF m 0 #[.val (.ref a), .val (.ref b), .val (.int (Int32.ofNat o)), .val (.int (Int32.ofNat len)), .val .null, .unset] [])) := entry rfl
  have c2 : Steps p.tables e below (s₁.setTop (entryFrame m #[.ref a, .ref b, .int (Int32.ofNat o), .int (Int32.ofNat len), .null] 6)) (s₁.setTop (mkF m 1 #[.val (.ref a), .val (.ref b), .val (.int (Int32.ofNat o)), .val (.int (Int32.ofNat len)), .val .null, .unset] [.ref a])) := c1.trans (by
    refine XS.aloadN X0.here hexec rfl (hb hbytes d0) rfl rfl ?_
    exact Steps.refl _)
  obtain ⟨T3, X3, q3, st3⟩ := X0.oinit hexec hown (wks W (objW "java/lang/String" 1)) (g := (mkF m 1 #[.val (.ref a), .val (.ref b), .val (.int (Int32.ofNat o)), .val (.int (Int32.ofNat len)), .val .null, .unset] [.ref a])) rfl (by rw [hml]; rfl) (rest := []) rfl (hb hbytes d1) (W := 0) (by show 2 * 0 + 0 ≤ _; decide) (Nat.le_of_ble_eq_true rfl) (Nat.le_of_ble_eq_true rfl)
  have hh3 := q3.trans hh0
  have c4 : Steps p.tables e below (s₁.setTop (entryFrame m #[.ref a, .ref b, .int (Int32.ofNat o), .int (Int32.ofNat len), .null] 6)) (T3.setTop (mkF m 27 #[.val (.ref a), .val (.ref b), .val (.int (Int32.ofNat o)), .val (.int (Int32.ofNat len)), .val .null, .unset] [])) := (c2.trans (st3 _ (Steps.refl _))).trans (by
    refine XS.iloadN X3.here hexec rfl (hb hbytes d4) rfl ?_
    refine XS.ifYes X3.here hexec rfl (pc0 := 5) rfl (hb hbytes d5) rfl (i0_ne_t (nz32 (by omega) l0)) (by decide) rfl ?_
    exact Steps.refl _)
  obtain ⟨T5, X5, q5, st5⟩ := X3.sget hexec hown (wk W (.fieldLink "java/lang/String" 38 "java/lang/String" "COMPACT_STRINGS" "Z")) s1 (fun _ _ h => by rw [hh3]; exact h) (g := (mkF m 27 #[.val (.ref a), .val (.ref b), .val (.int (Int32.ofNat o)), .val (.int (Int32.ofNat len)), .val .null, .unset] [])) rfl (hb hbytes d27)
  have hh5 := q5.trans hh3
  have c6 : Steps p.tables e below (s₁.setTop (entryFrame m #[.ref a, .ref b, .int (Int32.ofNat o), .int (Int32.ofNat len), .null] 6)) (T5.setTop (mkF m 30 #[.val (.ref a), .val (.ref b), .val (.int (Int32.ofNat o)), .val (.int (Int32.ofNat len)), .val .null, .unset] [.int z])) := c4.trans (st5 _ (Steps.refl _))
  have c7 : Steps p.tables e below (s₁.setTop (entryFrame m #[.ref a, .ref b, .int (Int32.ofNat o), .int (Int32.ofNat len), .null] 6)) (T5.setTop (mkF m 36 #[.val (.ref a), .val (.ref b), .val (.int (Int32.ofNat o)), .val (.int (Int32.ofNat len)), .val .null, .unset] [.int (Int32.ofNat len), .int (Int32.ofNat o), .ref b])) := c6.trans (by
    refine XS.ifNo X5.here hexec rfl (hb hbytes d30) rfl (i0_eq_f hz) ?_
    refine XS.aloadN X5.here hexec rfl (hb hbytes d33) rfl rfl ?_
    refine XS.iloadN X5.here hexec rfl (hb hbytes d34) rfl ?_
    refine XS.iloadN X5.here hexec rfl (hb hbytes d35) rfl ?_
    exact Steps.refl _)
  obtain ⟨v8, T8, X8, E8, g8⟩ := X5.callS hexec (Cmp3.law l b A o len) hown (wks W (staticW "java/lang/String" 177 Cmp3.yN)) (wk W Cmp3.tab) (W := 0) (Nat.le_of_ble_eq_true rfl) (Nat.le_of_ble_eq_true rfl) (Nat.le_refl _) (by show 0 + len ≤ len; omega) (g := (mkF m 36 #[.val (.ref a), .val (.ref b), .val (.int (Int32.ofNat o)), .val (.int (Int32.ofNat len)), .val .null, .unset] [.int (Int32.ofNat len), .int (Int32.ofNat o), .ref b])) rfl (by rw [hml]; rfl) c7 (argsL := [.ref b, .int (Int32.ofNat o), .int (Int32.ofNat len)]) (rest := []) rfl rfl (by show 2 * 0 + 0 ≤ _; decide) (hb hbytes d36) (⟨rfl, hA.mv X5.warmed.alike hh5, l1, l2, hp⟩)
  obtain ⟨e8, z8⟩ := E8
  obtain ⟨rfl, N, n1, n2, n3, n4, n5, n6⟩ := NewArr.mv _ T5 s _ _ hh5.symm (Vm.Alike.refl _) rfl e8
  rw [hh5] at z8
  have hB1 := hB.keep X8.warmed.alike (n6 _ _ hB.1)
  have hne : s.heap.size ≠ a := (Nat.ne_of_lt (Array.getElem?_eq_some_iff.mp hB.1).1).symm
  have c9 : Steps p.tables e below (s₁.setTop (entryFrame m #[.ref a, .ref b, .int (Int32.ofNat o), .int (Int32.ofNat len), .null] 6)) (T8.setTop (mkF m 39 #[.val (.ref a), .val (.ref b), .val (.int (Int32.ofNat o)), .val (.int (Int32.ofNat len)), .val .null, .unset] [.ref s.heap.size])) := g8
  have c10 : Steps p.tables e below (s₁.setTop (entryFrame m #[.ref a, .ref b, .int (Int32.ofNat o), .int (Int32.ofNat len), .null] 6)) (T8.setTop (mkF m 45 #[.val (.ref a), .val (.ref b), .val (.int (Int32.ofNat o)), .val (.int (Int32.ofNat len)), .val .null, .val (.ref s.heap.size)] [.int (Int32.ofNat N.slots.size), .ref s.heap.size, .ref a])) := by
    have hc : Steps p.tables e below (s₁.setTop (entryFrame m #[.ref a, .ref b, .int (Int32.ofNat o), .int (Int32.ofNat len), .null] 6)) (T8.setTop (mkF m 45 #[.val (.ref a), .val (.ref b), .val (.int (Int32.ofNat o)), .val (.int (Int32.ofNat len)), .val .null, .val (.ref s.heap.size)] [.int (Int32.ofNat len), .ref s.heap.size, .ref a])) := c9.trans (by
      refine XS.astore X8.here hexec rfl (hb hbytes d39) rfl rfl rfl ?_
      refine XS.aloadN X8.here hexec rfl (hb hbytes d41) rfl rfl ?_
      refine XS.aload X8.here hexec rfl (hb hbytes d42) rfl rfl ?_
      refine XS.iloadN X8.here hexec rfl (hb hbytes d44) rfl ?_
      exact Steps.refl _)
    rw [n4]; exact hc
  obtain ⟨v11, T11, X11, E11, g11⟩ := X8.callS hexec (CodL.law l s.heap.size N) hown (wks W (staticW "java/lang/String" 47 CodL.yN)) (wk W CodL.tab) (W := 1) (Nat.le_of_ble_eq_true rfl) (Nat.le_of_ble_eq_true rfl) (Nat.le_refl _) (by show 0 + len + 0 ≤ len; omega) (g := (mkF m 45 #[.val (.ref a), .val (.ref b), .val (.int (Int32.ofNat o)), .val (.int (Int32.ofNat len)), .val .null, .val (.ref s.heap.size)] [.int (Int32.ofNat N.slots.size), .ref s.heap.size, .ref a])) rfl (by rw [hml]; rfl) c10 (argsL := [.ref s.heap.size, .int (Int32.ofNat N.slots.size)]) (rest := [.ref a]) rfl rfl (by show 2 * 0 + (1 + 0) ≤ _; decide) (hb hbytes d45) (⟨rfl, n1⟩)
  obtain ⟨rfl, q11⟩ := E11
  have hB11 := hB1.mv (X8.warmed.alike.symm.trans X11.warmed.alike) q11
  have c12 : Steps p.tables e below (s₁.setTop (entryFrame m #[.ref a, .ref b, .int (Int32.ofNat o), .int (Int32.ofNat len), .null] 6)) (T11.setTop (mkF m 48 #[.val (.ref a), .val (.ref b), .val (.int (Int32.ofNat o)), .val (.int (Int32.ofNat len)), .val .null, .val (.ref s.heap.size)] [.int 0, .ref a])) := g11
  obtain ⟨T13, X13, p13, bl13, sl13, st13⟩ := X11.finit hexec hown (wk W (.fieldLink "java/lang/String" 15 "java/lang/String" "coder" "B")) (Or.inr ⟨_, (wk W (.laysFinal "java/lang/String" "java/lang/String" "coder" "B"))⟩) (Or.inl ⟨rfl, hnm⟩) f2 (Or.inl rfl) hB11 (t := .byte) (by decide +kernel) rfl (g := (mkF m 48 #[.val (.ref a), .val (.ref b), .val (.int (Int32.ofNat o)), .val (.int (Int32.ofNat len)), .val .null, .val (.ref s.heap.size)] [.int 0, .ref a])) rfl (rest := []) rfl (hb hbytes d48)
  have c14 : Steps p.tables e below (s₁.setTop (entryFrame m #[.ref a, .ref b, .int (Int32.ofNat o), .int (Int32.ofNat len), .null] 6)) (T13.setTop (mkF m 54 #[.val (.ref a), .val (.ref b), .val (.int (Int32.ofNat o)), .val (.int (Int32.ofNat len)), .val .null, .val (.ref s.heap.size)] [.ref s.heap.size, .ref a])) := (c12.trans (st13 _ (Steps.refl _))).trans (by
    refine XS.aloadN X13.here hexec rfl (hb hbytes d51) rfl rfl ?_
    refine XS.aload X13.here hexec rfl (hb hbytes d52) rfl rfl ?_
    exact Steps.refl _)
  obtain ⟨T15, X15, p15, bl15, sl15, st15⟩ := X13.finit hexec hown (wk W (.fieldLink "java/lang/String" 9 "java/lang/String" "value" "[B")) (Or.inr ⟨_, (wk W (.laysFinal "java/lang/String" "java/lang/String" "value" "[B"))⟩) (Or.inl ⟨rfl, hnm⟩) f1 (Or.inl rfl) bl13 (t := (.array .byte)) (by decide +kernel) rfl (g := (mkF m 54 #[.val (.ref a), .val (.ref b), .val (.int (Int32.ofNat o)), .val (.int (Int32.ofNat len)), .val .null, .val (.ref s.heap.size)] [.ref s.heap.size, .ref a])) rfl (rest := []) rfl (hb hbytes d54)
  have c16 : Steps p.tables e below (s₁.setTop (entryFrame m #[.ref a, .ref b, .int (Int32.ofNat o), .int (Int32.ofNat len), .null] 6)) (T15.setTop (mkF m 57 #[.val (.ref a), .val (.ref b), .val (.int (Int32.ofNat o)), .val (.int (Int32.ofNat len)), .val .null, .val (.ref s.heap.size)] [])) := c14.trans (st15 _ (Steps.refl _))
  have ap := apart (Or.inr ⟨_, (wk W (.laysFinal "java/lang/String" "java/lang/String" "value" "[B"))⟩) (Or.inr ⟨_, (wk W (.laysFinal "java/lang/String" "java/lang/String" "coder" "B"))⟩) f1 f2 (t₁ := .array .byte) (t₂ := .byte) (by decide +kernel) (by decide +kernel) (by decide)
  have al := X8.warmed.alike.symm.trans X15.warmed.alike
  have n7 : T11.heap[s.heap.size]? = some N := by rw [q11]; exact n1.1
  exact ⟨T15, none, _, _, _, X15, by simp, rfl, by omega, (fun _ => rfl), ⟨rfl, _, N, bl15, ((Same.refl D _).set _ (by simp)).set _ (by simp), sl15, (Cell.slots_setSlot_ne _ ap).trans sl13, n1.keep al (p15.other hne (p13.other hne n7)), n2, by rw [al.findClass]; exact n3, n4, n5, fun y c h1 h2 => p15.other h1 (p13.other h1 (by rw [q11]; exact n6 y c h2)), by rw [p15.2.2, p13.2.2, q11]; exact z8⟩, fun fs hl => c16.trans (X15.returnOut hexec hret (hb hbytes d57) hl)⟩
end New4
namespace New1
def yN : MethodName := ⟨"java/lang/String", "<init>", "([C)V"⟩
abbrev yB : ByteArray := jdk_42_method_3_code
theorem d0 : decode yB 0 = .ok (.aload_n 0, 1) := by decide +kernel
theorem d1 : decode yB 1 = .ok (.aload_n 1, 1) := by decide +kernel
theorem d2 : decode yB 2 = .ok (.iconst 0, 1) := by decide +kernel
theorem d3 : decode yB 3 = .ok (.aload_n 1, 1) := by decide +kernel
theorem d4 : decode yB 4 = .ok (.arraylength, 1) := by decide +kernel
theorem d5 : decode yB 5 = .ok (.aconst_null, 1) := by decide +kernel
theorem d6 : decode yB 6 = .ok (.invokespecial 27, 3) := by decide +kernel
theorem d9 : decode yB 9 = .ok (.return_, 1) := by decide +kernel
def site : List Cond := [New4.tab] ++ initW "java/lang/String" 27 New4.yN
def tab : Cond := tabOf yN yB 2 none site
def P (a : Addr) (D : Cell) (fV fC : Field) (b : Addr) (A : Cell) (z : Int32) (args : Array Value) (s : State) : Prop := args = #[.ref a, .ref b] ∧ Blank "java/lang/String" a D s ∧ Found "java/lang/String" "value" "[B" fV s ∧ Found "java/lang/String" "coder" "B" fC s ∧ Ch b A s ∧ StaticIs s "java/lang/String" "COMPACT_STRINGS" "Z" (.int z) ∧ ¬ z = 0 ∧ 0 < A.slots.size ∧ A.slots.size ≤ 536870912 ∧ ∀ i, i < A.slots.size → ¬ 255 < cv A i
def E (a : Addr) (D : Cell) (fV fC : Field) (A : Cell) (r : Option Value) (s u : State) : Prop := Got a D fV fC A 0 A.slots.size r s u
/-- new String(chars), not empty, no char above 255: a Latin-1 String of their low bytes -/
theorem law (l : Launch) (a : Addr) (D : Cell) (fV fC : Field) (b : Addr) (A : Cell) (z : Int32) : Law l yN 2 1 3 52 yB 2 none site (P a D fV fC b A z) (E a D fV fC A) [⟨a, fC.slot⟩, ⟨a, fV.slot⟩] 1 A.slots.size := by
  refine Law.of_walk (plainFor_of_name (by decide +kernel)) (by decide +kernel) (by decide +kernel) (by decide) (fun _ _ h => by rw [h.1]; rfl) (fun _ U U' hal hh h => ⟨h.1, h.2.1.mv hal hh, h.2.2.1.al hal, h.2.2.2.1.al hal, h.2.2.2.2.1.mv hal hh, h.2.2.2.2.2.1.there hal hh, h.2.2.2.2.2.2⟩) (fun r U U' V V' h1 hal h2 h => Got.mv r U U' V V' h1 hal h2 h) ?_
  intro p e s m args below meth c s₁ X0 hexec hbytes hml hret hlk hnm hown hh0 W hP
  obtain ⟨rfl, hB, f1, f2, hA, s1, hz, l0, l2, hp⟩ := hP
  have c1 : Steps p.tables e below (s₁.setTop (entryFrame m #[.ref a, .ref b] 2)) (s₁.setTop (mkF m 0 #[.val (.ref a), .val (.ref b)] [])) := entry rfl
  have c2 : Steps p.tables e below (s₁.setTop (entryFrame m #[.ref a, .ref b] 2)) (s₁.setTop (mkF m 6 #[.val (.ref a), .val (.ref b)] [.null, .int (Int32.ofNat A.slots.size), .int 0, .ref b, .ref a])) := c1.trans (by
    refine XS.aloadN X0.here hexec rfl (hb hbytes d0) rfl rfl ?_
    refine XS.aloadN X0.here hexec rfl (hb hbytes d1) rfl rfl ?_
    refine iconstV X0.here hexec rfl 0 (hb hbytes d2) (by decide) ?_
    refine XS.aloadN X0.here hexec rfl (hb hbytes d3) rfl rfl ?_
    refine X0.alen hexec (hA.1.mv X0.warmed.alike hh0) rfl rfl (hb hbytes d4) ?_
    refine XS.aconstNull X0.here hexec rfl (hb hbytes d5) ?_
    exact Steps.refl _)
  obtain ⟨v3, T3, X3, E3, g3⟩ := X0.callN hexec (New4.law l a D fV fC b A z 0 A.slots.size) rfl hown (wks W (initW "java/lang/String" 27 New4.yN)) (W New4.tab (by simp only [site, List.mem_cons, List.mem_append, true_or, or_true])) (W := 0) (Nat.le_of_ble_eq_true rfl) (Nat.le_of_ble_eq_true rfl) (Nat.le_refl _) (by show 0 + A.slots.size ≤ A.slots.size; omega) (g := (mkF m 6 #[.val (.ref a), .val (.ref b)] [.null, .int (Int32.ofNat A.slots.size), .int (Int32.ofNat 0), .ref b, .ref a])) rfl (by rw [hml]; rfl) c2 (argsL := [.ref b, .int (Int32.ofNat 0), .int (Int32.ofNat A.slots.size), .null]) (rest := []) rfl rfl (by show 2 * 0 + 0 ≤ _; decide) (hb hbytes d6) (⟨rfl, hB.mv X0.warmed.alike hh0, f1.al X0.warmed.alike, f2.al X0.warmed.alike, hA.mv X0.warmed.alike hh0, s1.there X0.warmed.alike hh0, hz, l0, by omega, l2, fun i hi => by rw [Nat.zero_add]; exact hp i hi⟩)
  have e0 := Got.mv _ s₁ s _ _ hh0.symm (Vm.Alike.refl _) rfl E3
  obtain rfl := e0.1
  have c4 : Steps p.tables e below (s₁.setTop (entryFrame m #[.ref a, .ref b] 2)) (T3.setTop (mkF m 9 #[.val (.ref a), .val (.ref b)] [])) := g3
  exact ⟨T3, none, _, _, _, X3, by simp, rfl, by omega, (fun _ => rfl), e0, fun fs hl => c4.trans (X3.returnOut hexec hret (hb hbytes d9) hl)⟩
theorem pays {l : Launch} {R : Room} {p : Program} {e : Env} {below : List Frame} {s : State} {sargs : Array Value} {len W : Nat} (a : Addr) (D : Cell) (fV fC : Field) (b : Addr) (A : Cell) (z : Int32) (htab : tab.before sargs s = true) (hfr : 4 ≤ R.frames) (hlo : W + 65 ≤ R.locals) :
    Back l R p e below s sargs yN len W (fun A₁ a₁ => A₁.cells + 1 ≤ R.cells ∧ A₁.slots + A.slots.size ≤ R.slots ∧ P a D fV fC b A z a₁ A₁.U) (fun A₁ _ v₁ B₁ => E a D fV fC A v₁ A₁.U B₁.U ∧ B₁.locs = A₁.locs ++ [⟨a, fC.slot⟩, ⟨a, fV.slot⟩] ∧ B₁.cells = A₁.cells + 1 ∧ B₁.slots = A₁.slots + A.slots.size) :=
  (law l a D fV fC b A z).pays htab hfr (by omega)
end New1
end StrChars
namespace StrChars.Road
open Jvm Sem ClassFile Op Lib Jvm.Stand Jvm.Free Jvm.Free.XT
open Jvm.Lib.Cold (StaticIs)
abbrev ST : String := "java/lang/String"
/-- every table word that New1's law asks, flat -/
abbrev words : List Jvm.Cond := [.code New1.yN New1.yB 2 none, .initialized ST, .methodLink ST 27 New4.yN, .instanceMethod New4.yN,
  .code New4.yN New4.yB 6 none, .fieldLink ST 38 ST "COMPACT_STRINGS" "Z", .laysFinal ST ST "value" "[B", .fieldLink ST 9 ST "value" "[B", .laysFinal ST ST "coder" "B", .fieldLink ST 15 ST "coder" "B",
  .methodLink ST 1 Lib.objectInit, .instanceMethod Lib.objectInit, .code Lib.objectInit ⟨#[0xb1]⟩ 1 none, .methodLink ST 177 Cmp3.yN, .static Cmp3.yN, .methodLink ST 47 CodL.yN, .static CodL.yN,
  .code Cmp3.yN Cmp3.yB 6 (some (.array .byte)), .initialized U16, .arrayClass .byte, .methodLink U16 115 Cmp5.yN, .static Cmp5.yN, .code Cmp5.yN Cmp5.yB 7 (some .int), .code CodL.yN CodL.yB 2 (some .byte)]
theorem tab_of {a : Array Value} {s : State} (h : ∀ w ∈ words, w.before a s = true) : New1.tab.before a s = true := by
  have h5 : Cmp5.tab.before a s = true := unparts (wk h (.code Cmp5.yN Cmp5.yB 7 (some .int))) (wks h (.initialized Cmp5.yN.cls :: Cmp5.site))
  have hc : CodL.tab.before a s = true := unparts (wk h (.code CodL.yN CodL.yB 2 (some .byte))) (wks h (.initialized CodL.yN.cls :: CodL.site))
  have q5 : ∀ w ∈ Cmp5.tab :: words, w.before a s = true := fun w hw => (List.mem_cons.mp hw).elim (fun e => e ▸ h5) (h w)
  have h3 : Cmp3.tab.before a s = true := unparts (wk q5 (.code Cmp3.yN Cmp3.yB 6 (some (.array .byte)))) (wks q5 (.initialized Cmp3.yN.cls :: Cmp3.site))
  have q3 : ∀ w ∈ Cmp3.tab :: CodL.tab :: words, w.before a s = true := fun w hw => (List.mem_cons.mp hw).elim (fun e => e ▸ h3) fun hw => (List.mem_cons.mp hw).elim (fun e => e ▸ hc) (h w)
  have h4 : New4.tab.before a s = true := unparts (wk q3 (.code New4.yN New4.yB 6 none)) (wks q3 (.initialized New4.yN.cls :: New4.site))
  have q4 : ∀ w ∈ New4.tab :: words, w.before a s = true := fun w hw => (List.mem_cons.mp hw).elim (fun e => e ▸ h4) (h w)
  exact unparts (wk q4 (.code New1.yN New1.yB 2 none)) (wks q4 (.initialized New1.yN.cls :: New1.site))
/-- the words ride from the start Z to the walk's own state -/
theorem moved {Z s : State} {a0 args : Array Value} (hZ : Z.Warmed39 s.vm) (hw : ∀ d ∈ words, d.before a0 Z = true) : ∀ d ∈ words, d.before args s = true := fun d hd => by
  have q := hw d hd
  have t : ∀ d ∈ words, d = .arrayClass .byte ∨ (d.onTables && d.keepsFace) = true := by decide +kernel
  rcases t d hd with rfl | t
  · exact RoadKit.mvA hZ q
  · exact RoadKit.mv hZ q t
/-- WHAT COMES BACK, over the tables of the start Z: h the heap at the call, h' behind it -/
def Q (Z : State) (x : Addr) (A : Cell) (h : Heap) (v : Option Value) (h' : Heap) (L : List Loc) : Prop := v = none ∧ (∀ y ∈ L, y.base = x) ∧ RoadKit.Keep h h' [x] ∧ h'.size = h.size + 1 ∧ RoadKit.Exa Z h' x ST ∧ RoadKit.Fld Z h' x ST "value" "[B" (.ref h.size) ∧ RoadKit.Fld Z h' x ST "coder" "B" (.int 0) ∧
  (∃ V : Cell, RoadKit.Arr Z h' h.size V .byte ∧ V.vm = .none ∧ Z.vm.findClass "[B" = some V.cls ∧ V.slots.size = A.slots.size ∧ ∀ j, j < A.slots.size → V.slots[j]? = some (.int (lo8 (cv A j)))) ∧
  ∀ (O n d : String) (w : Value), RoadKit.Fld Z h x O n d w → RoadKit.slotOf Z O n d ≠ RoadKit.slotOf Z ST "value" "[B" → RoadKit.slotOf Z O n d ≠ RoadKit.slotOf Z ST "coder" "B" → RoadKit.Fld Z h' x O n d w
/-- **new String(chars) AT A CALL, IN THE ROAD'S FORM**: for specialBack behind newO: x the fresh String, b the char[] with the cell A -/
theorem back {p : Program} {l : Launch} {e : Env} {R : Room} {s : State} {args : Array Value} {below : List Frame} {len W : Nat} {Z : State} {a0 : Array Value} {h : Heap} (hZ : Z.Warmed39 s.vm) (hw : ∀ d ∈ words, d.before a0 Z = true) {kI : Nat} (wi : (Jvm.Cond.instantiable ST kI).before a0 Z = true)
    {x b : Addr} {A : Cell} {z : Int32} {v0 c0 : Value} (E : RoadKit.Exa Z h x ST) (V : RoadKit.Fld Z h x ST "value" "[B" v0) (C : RoadKit.Fld Z h x ST "coder" "B" c0) (K : RoadKit.Arr Z h b A .char) (hty : Typed .char A) (S : RoadKit.Sta Z h ST "COMPACT_STRINGS" "Z" (.int z)) (hz : ¬ z = 0)
    (l0 : 0 < A.slots.size) (l2 : A.slots.size ≤ 536870912) (hp : ∀ i, i < A.slots.size → ¬ 255 < cv A i) (hfr : 4 ≤ R.frames) (hlo : W + 65 ≤ R.locals) :
    Back l R p e below s args New1.yN len W (fun P a => a = #[.ref x, .ref b] ∧ P.U.heap = h ∧ P.cells + 1 ≤ R.cells ∧ P.slots + A.slots.size ≤ R.slots)
      (fun P _ v B => ∃ L, Q Z x A h v B.U.heap L ∧ B.locs = P.locs ++ L ∧ B.cells = P.cells + 1 ∧ B.slots = P.slots + A.slots.size) := by
  intro m meth c P g ig mk a X hg hsize hdg hW hn hp'
  obtain ⟨rfl, rfl, r1, r2⟩ := hp'
  have al : Z.vm.Alike P.U.vm := hZ.alike.trans X.warmed.alike
  obtain ⟨D, cfV, kV, iV, fV, hD, gV, stV, knV, obV, asV, slV⟩ := id V
  obtain ⟨D', cfC, kC, iC, fC, hD', gC, stC, -, -, asC, slC⟩ := id C
  cases hD.symm.trans hD'
  obtain ⟨D2, kD, e1, e2, e3, e4, e5⟩ := id E
  cases hD.symm.trans e1
  obtain ⟨c2, k2, i1, i2, i3, -⟩ := Cond.instantiable_spec wi
  cases e2.symm.trans i1
  cases e3.symm.trans i2
  obtain ⟨kU, u1, u2⟩ := al.2.2 _ _ e3
  have hB : Blank ST x D P.U := ⟨hD, ⟨knV, fun q hq => by rw [hq] at obV; cases obV⟩, by rw [al.findClass]; exact e2, kU, u1, by rw [u2]; exact i3, by rw [u2]; exact e5 i3⟩
  have F1 : Found ST "value" "[B" fV P.U := ⟨SBG.found_only al ⟨cfV, kV, iV, gV⟩, stV⟩
  have F2 : Found ST "coder" "B" fC P.U := ⟨SBG.found_only al ⟨cfC, kC, iC, gC⟩, stC⟩
  have hA : Ch b A P.U := ⟨⟨K.1, State.isArrayOf_alike al K.2.1, K.2.2, by omega⟩, hty⟩
  have hS : StaticIs P.U ST "COMPACT_STRINGS" "Z" (.int z) := by
    obtain ⟨cfS, iS, kS, fS, st, cS, t1, t2, t3, t4, t5, t6, t7⟩ := S
    exact StaticIs.there (s := { Z with heap := P.U.heap }) ⟨cfS, iS, kS, fS, st, cS, t1, t2, t3, t4, t5, (fun q => by rw [q] at t6; cases t6), t7⟩ al rfl
  obtain ⟨v, B, X', ⟨⟨hv, E', V', q1, q2, q3, q4, q5, q6, q7, q8, q9, q10, q11⟩, hl, hc, hs⟩, st⟩ := New1.pays x D fV fC b A z (tab_of (moved hZ hw)) hfr hlo m meth c P g ig mk _ X hg hsize hdg hW hn ⟨r1, r2, rfl, hB, F1, F2, hA, hS, hz, l0, l2, hp⟩
  have al' : Z.vm.Alike B.U.vm := hZ.alike.trans X'.warmed.alike
  have hsz : E'.slots.size = D.slots.size := by
    obtain ⟨-, -, -, kB, w1, w2, w3⟩ := q1
    obtain ⟨kB', y1, y2⟩ := al'.2.2 _ _ e3
    rw [q2.2.1] at w1
    cases w1.symm.trans y1
    rw [w3, e5 i3, y2]
  refine ⟨v, B, X', ⟨_, ⟨hv, ?_, ⟨by omega, fun y cy hy hn' => q10 y cy (by simpa using hn') hy, fun y cy hy => ?_⟩, q11, ⟨E', _, q1.1, by rw [q2.2.1]; exact e2, by rw [q2.2.1]; exact e3, by rw [q2.1]; exact obV, fun _ => by rw [hsz]; exact e5 i3⟩,
    ⟨E', cfV, kV, iV, fV, q1.1, gV, stV, by rw [q2.1]; exact knV, by rw [q2.1]; exact obV, by rw [q2.2.1]; exact asV, q3⟩, ⟨E', cfC, kC, iC, fC, q1.1, gC, stC, by rw [q2.1]; exact knV, by rw [q2.1]; exact obV, by rw [q2.2.1]; exact asC, q4⟩,
    ⟨V', ⟨q5.1, State.isArrayOf_alike al'.symm q5.2.1, q5.2.2.1⟩, q6, by rw [← al'.findClass]; exact q7, q8, fun j hj => by have := q9 j hj; rwa [Nat.zero_add] at this⟩, fun O n d w F n1 n2 => ?_⟩, hl, hc, hs⟩, st⟩
  · intro y hy
    simp only [List.mem_cons, List.not_mem_nil, or_false] at hy
    rcases hy with rfl | rfl <;> rfl
  · by_cases q : y = x
    · subst q
      cases hD.symm.trans hy
      exact ⟨E', q1.1, q2.2.1, q2.1, hsz⟩
    · exact ⟨cy, q10 y cy q hy, rfl, rfl, rfl⟩
  · obtain ⟨D3, cf, k, i, f, g1, g2, g3, g4, g5, g6, g7⟩ := F
    cases hD.symm.trans g1
    simp only [RoadKit.slotOf, g2, gV, gC, Option.map_some, Option.getD_some] at n1 n2
    exact ⟨E', cf, k, i, f, q1.1, g2, g3, by rw [q2.1]; exact g4, by rw [q2.1]; exact g5, by rw [q2.2.1]; exact g6, by rw [q2.2.2 f.slot (by simp [n1, n2])]; exact g7⟩
end StrChars.Road
namespace StrChars.Road
open Jvm Sem ClassFile Op Lib Jvm.Stand Jvm.Free Jvm.Free.XT
/-- WHAT COMES BACK, the byte[] as a list of values -/
def QA (Z : State) (x : Addr) (zn : Int32) (cs : List Int32) (h : Heap) (v : Option Value) (h' : Heap) (L : List Loc) : Prop := v = none ∧ (∀ y ∈ L, y.base = x) ∧ RoadKit.Keep h h' [x] ∧ h'.size = h.size + 1 ∧ RoadKit.Exa Z h' x ST ∧ RoadKit.Fld Z h' x ST "value" "[B" (.ref h.size) ∧ RoadKit.Fld Z h' x ST "coder" "B" (.int 0) ∧
  (∃ kb, Z.vm.findClass "[B" = some kb ∧ RoadKit.Arv Z h' h.size kb .byte zn (cs.map fun c => .int (lo8 c)) (.int 0)) ∧
  ∀ (O n d : String) (w : Value), RoadKit.Fld Z h x O n d w → RoadKit.slotOf Z O n d ≠ RoadKit.slotOf Z ST "value" "[B" → RoadKit.slotOf Z O n d ≠ RoadKit.slotOf Z ST "coder" "B" → RoadKit.Fld Z h' x O n d w
/-- **new String(chars) AT A CALL, THE ARRAYS AS LISTS**: the char[] at b holds cs, not empty, no char above 255 -/
theorem backArv {p : Program} {l : Launch} {e : Env} {R : Room} {s : State} {args : Array Value} {below : List Frame} {len W : Nat} {Z : State} {a0 : Array Value} {h : Heap} (hZ : Z.Warmed39 s.vm) (hw : ∀ d ∈ words, d.before a0 Z = true) {kI : Nat} (wi : (Jvm.Cond.instantiable ST kI).before a0 Z = true)
    {x b : Addr} {k : ClassId} {zn z : Int32} {cs : List Int32} {dv v0 c0 : Value} (E : RoadKit.Exa Z h x ST) (V : RoadKit.Fld Z h x ST "value" "[B" v0) (C : RoadKit.Fld Z h x ST "coder" "B" c0) (K : RoadKit.Arv Z h b k .char zn (cs.map Value.int) dv) (S : RoadKit.Sta Z h ST "COMPACT_STRINGS" "Z" (.int z)) (hz : ¬ z = 0)
    (hlen : zn.toNatClampNeg = cs.length) (h0 : 0 < cs.length) (hbig : cs.length ≤ 536870912) (hall : ∀ c ∈ cs, ¬ 255 < c) (hfr : 4 ≤ R.frames) (hlo : W + 65 ≤ R.locals) :
    Back l R p e below s args New1.yN len W (fun P a => a = #[.ref x, .ref b] ∧ P.U.heap = h ∧ P.cells + 1 ≤ R.cells ∧ P.slots + cs.length ≤ R.slots)
      (fun P _ v B => ∃ L, QA Z x zn cs h v B.U.heap L ∧ B.locs = P.locs ++ L ∧ B.cells = P.cells + 1 ∧ B.slots = P.slots + cs.length) := by
  obtain ⟨A, K1, K2, K3, K4, K5, K6⟩ := K
  have e : A.slots.size = cs.length := K3.trans hlen
  have hat : ∀ (i : Nat) (hi : i < cs.length), A.slots[i]? = some (.int cs[i]) := fun i hi => by rw [K5 i (by omega)]; simp [List.getD_eq_getElem?_getD, hi]
  have hcv : ∀ (i : Nat) (hi : i < cs.length), cv A i = cs[i] := fun i hi => by unfold cv; rw [hat i hi]
  have hty : Typed .char A := fun i v hv => by
    have hi : i < A.slots.size := (Array.getElem?_eq_some_iff.mp hv).1
    have q := K5 i hi
    rw [hv] at q
    rw [Option.some.inj q]
    exact K6 i hi
  refine Back.mono (back hZ hw wi E V C K1 hty S hz (by omega) (by omega) (fun i hi => by rw [hcv i (by omega)]; exact hall _ (List.getElem_mem _)) hfr hlo) (fun P a hp => ⟨hp.1, hp.2.1, hp.2.2.1, by rw [e]; exact hp.2.2.2⟩) (fun P a v B hp hq => ?_)
  obtain ⟨L, ⟨q1, q2, q3, q4, q5, q6, q7, ⟨V', v1, v2, v3, v4, v5⟩, q9⟩, hl, hc, hs⟩ := hq
  refine ⟨L, ⟨q1, q2, q3, q4, q5, q6, q7, ⟨V'.cls, v3, V', v1, rfl, by rw [v4, e, hlen], K4, fun i hi => ?_, fun i hi => ?_⟩, q9⟩, hl, hc, by rw [hs, e]⟩
  · have hi' : i < cs.length := by omega
    rw [v5 i (by omega), hcv i hi']; simp [List.getD_eq_getElem?_getD, hi']
  · have hi' : i < cs.length := by omega
    simp only [List.getD_eq_getElem?_getD, List.getElem?_map, List.getElem?_eq_getElem hi', Option.map_some, Option.getD_some]
    exact fits_lo8 _
end StrChars.Road
namespace StrChars.Road
open Jvm Sem ClassFile Op Lib Jvm.Stand Jvm.Free Jvm.Free.XT
/-- WHAT COMES BACK, in the writer's own shape -/
def QV (Z : State) (x : Addr) (N : Int32) (bs : List Int32) (h : Heap) (n0 : Nat) (v : Option Value) (h' : Heap) (L : List Loc) : Prop := v = none ∧ RoadKit.Fr n0 L ∧ RoadKit.Keep h h' [x] ∧ RoadKit.Exa Z h' x ST ∧ RoadKit.Fld Z h' x ST "coder" "B" (.int 0) ∧
  ∃ (t : Addr) (kb : ClassId), n0 ≤ t ∧ h.size ≤ t ∧ ¬ t = x ∧ RoadKit.Fld Z h' x ST "value" "[B" (.ref t) ∧ RoadKit.Arv Z h' t kb .byte N (bs.map Value.int) (.int 0)
/-- **new String(chars) AT A CALL, FOR THE WRITER**: a char[] of n known ints, each 0 to 255 -/
theorem backV {p : Program} {l : Launch} {e : Env} {R : Room} {s : State} {args : Array Value} {below : List Frame} {len W : Nat} {Z : State} {a0 : Array Value} {h : Heap} (hZ : Z.Warmed39 s.vm) (hw : ∀ d ∈ words, d.before a0 Z = true) {kI : Nat} (wi : (Jvm.Cond.instantiable ST kI).before a0 Z = true)
    {x b : Addr} {kC : ClassId} {cs bs : List Int32} {d v0 c0 : Value} {z N : Int32} {n n0 : Nat} (hx0 : n0 ≤ x) (hh0 : n0 ≤ h.size) (E : RoadKit.Exa Z h x ST) (V : RoadKit.Fld Z h x ST "value" "[B" v0) (C : RoadKit.Fld Z h x ST "coder" "B" c0) (K : RoadKit.Arv Z h b kC .char N (cs.map Value.int) d) (S : RoadKit.Sta Z h ST "COMPACT_STRINGS" "Z" (.int z)) (hz : ¬ z = 0)
    (hn : cs.length = n) (hN : N = Int32.ofNat n) (l0 : 0 < n) (l2 : n ≤ 4000) (hp : ∀ c ∈ cs, ¬ c < 0 ∧ ¬ (255 : Int32) < c) (hb : bs = cs.map (fun c => c.toInt8.toInt32)) (hfr : 4 ≤ R.frames) (hlo : W + 65 ≤ R.locals) :
    Back l R p e below s args (⟨"java/lang/String", "<init>", "([C)V"⟩ : MethodName) len W (fun P a => a = #[.ref x, .ref b] ∧ P.U.heap = h ∧ P.cells + 1 ≤ R.cells ∧ P.slots + n ≤ R.slots)
      (fun P _ v B => ∃ L, QV Z x N bs h n0 v B.U.heap L ∧ B.locs = P.locs ++ L ∧ B.cells = P.cells + 1 ∧ B.slots = P.slots + n) := by
  subst hn hN hb
  refine Back.mono (backArv hZ hw wi E V C K S hz (n32 (by omega)) l0 (by omega) (fun c hc => (hp c hc).2) hfr hlo) (fun P a hp => hp) (fun P a v B hp hq => ?_)
  obtain ⟨L, ⟨q1, q2, q3, q4, q5, q6, q7, ⟨kb, v1, v2⟩, q9⟩, hl, hc, hs⟩ := hq
  exact ⟨L, ⟨q1, fun y hy => by rw [q2 y hy]; exact hx0, q3, q5, q7, h.size, kb, hh0, Nat.le_refl _, Nat.ne_of_gt E.lt, q6, by rw [List.map_map]; exact v2⟩, hl, hc, hs⟩
end StrChars.Road
end Jvm.Pilot.@@N@@
namespace Jvm.Pilot.@@N@@
open Jvm Jvm.ClassFile Sem Op Lib Jvm.Free Jvm.Stand Jvm.LawKit Jvm.RoadKit Bundle Jvm.Pilot.@@N@@.Jvm.D
-- own prelude: a walk as a chain of goals Go (from here the method comes to its end, and Fin holds there)
def PT (W : Bool) (EL : List (String × Nat)) (Z : State) (a0 : Array Value) (own : String) (p : Program) (l : Launch) (e : Env) (R : Room) (s : State) (m : MethodId) (args : Array Value) (below : List Frame) (meth : Method) (c : Code) (T : State) (h : Heap) (cells slots : Nat) : Prop :=
  ∃ (vm0 : Vm) (k0 : Nat) (locs : List Loc), (W = false → vm0 = s.vm) ∧ Stand p l e R (s.setVm vm0) m args below meth c T locs cells slots ∧ T.heap = h ∧ p.tables.exec = Jvm.exec ∧ Z.Warmed39 vm0 ∧ vm0.findClass own = some m.cls ∧ s.Since vm0 k0 ∧ k0 ≤ h.size ∧ EW Z a0 EL ∧ CHr Z EL s.vm s.heap vm0 h ∧ Fr Z.heap.size locs ∧ Old Z Z.heap.size h
def Go (W : Bool) (EL : List (String × Nat)) (Z : State) (a0 : Array Value) (own : String) (p : Program) (l : Launch) (e : Env) (R : Room) (s : State) (m : MethodId) (args : Array Value) (below : List Frame) (meth : Method) (c : Code) (F : Outcome → State → Prop) (h : Heap) (cells slots : Nat) (g : JFrame) : Prop :=
  ∀ T, PT W EL Z a0 own p l e R s m args below meth c T h cells slots → ∃ t o, Steps p.tables e below (T.setTop g) t ∧ t.status = .running ∧ Ended t below o ∧ F o t
def Fend (W : Bool) (EL : List (String × Nat)) (Z : State) (s : State) (h0 : Heap) (ws : List Addr) (Q : Option Value → Heap → Prop) (dc ds : Nat) (o : Outcome) (t : State) : Prop :=
  ∃ v L, o = .returned v ∧ (Q v t.heap ∧ Fr Z.heap.size L ∧ Keep h0 t.heap ws) ∧ (W = true → CHr Z EL s.vm s.heap t.vm t.heap ∧ ReturnedEndW s o t L dc ds) ∧ (W = false → FrameEnd s o t L dc ds)
def Con (W : Bool) (EL : List (String × Nat)) (l : Launch) (Z : State) (y : MethodName) (bytes : ByteArray) (maxL : Nat) (ret : Option FieldType) (wl : List Jvm.Cond) (rm : Room) (as' : Array Value) (h : Heap) (ws : List Addr) (Q : Option Value → Heap → Prop) : Prop :=
  MetFree l y (head1 (Jvm.Cond.code y bytes maxL ret :: wl) rm) (fun a U => a = as' ∧ Z.Warmed39 U.vm ∧ U.heap = h ∧ (W = true → CHv Z EL U.vm h)) (fun _ _ _ _ _ => True) (fun _ U o U' => Fend W EL Z U h ws Q rm.cells rm.slots o U')
def rvl (Q : Value → Heap → Prop) (v : Option Value) (h : Heap) : Prop := ∃ x, v = some x ∧ Q x h
def rno (Q : Heap → Prop) (v : Option Value) (h : Heap) : Prop := v = none ∧ Q h
def Pay (l : Launch) (R : Room) (p : Program) (e : Env) (below : List Frame) (Z : State) (y : MethodName) (Wd : Nat) (as' : Array Value) (h : Heap) (dc ds : Nat) (ws : List Addr) (Q : Option Value → Heap → Prop) : Prop :=
  ∀ (s : State) (args : Array Value), Z.Warmed39 s.vm → Back l R p e below s args y 3 Wd (fun A a => a = as' ∧ A.U.heap = h ∧ A.cells + dc ≤ R.cells ∧ A.slots + ds ≤ R.slots) (fun A _ v B => ∃ L, (Q v B.U.heap ∧ Fr Z.heap.size L ∧ Keep h B.U.heap ws) ∧ B.locs = A.locs ++ L ∧ B.cells = A.cells + dc ∧ B.slots = A.slots + ds)
def PayW (EL : List (String × Nat)) (l : Launch) (R : Room) (p : Program) (e : Env) (below : List Frame) (Z : State) (y : MethodName) (Wd : Nat) (as' : Array Value) (h : Heap) (dc ds : Nat) (ws : List Addr) (Q : Option Value → Heap → Prop) : Prop :=
  ∀ (s : State) (vm0 : Vm) (args : Array Value), Z.Warmed39 vm0 → CHv Z EL vm0 h → BackS l R p e below (s.setVm vm0) args y 3 Wd (fun A a => a = as' ∧ A.U.heap = h ∧ A.cells + dc ≤ R.cells ∧ A.slots + ds ≤ R.slots) (fun A _ v B => ∃ L, (Q v B.U.heap ∧ Fr Z.heap.size L ∧ Keep h B.U.heap ws) ∧ B.locs = A.locs ++ L ∧ B.cells = A.cells + dc ∧ B.slots = A.slots + ds ∧ CHr Z EL vm0 h B.U.vm B.U.heap)
section Own
variable {W : Bool} {EL : List (String × Nat)} {Z : State} {a0 : Array Value} {own : String} {p : Program} {l : Launch} {e : Env} {R : Room} {s : State} {m : MethodId} {args : Array Value} {below : List Frame} {meth : Method} {c : Code} {F : Outcome → State → Prop} {h : Heap} {cells slots cells' slots' : Nat} {pc pc' : Nat} {ls ls' : Array Slot} {st : List Value}
theorem safe_nil {vm : Vm} {x : Addr} : Safe Z [] vm h x := fun ⟨_, hp, _⟩ => nomatch hp
theorem chv_nil {vm : Vm} : CHv Z [] vm h := fun _ hp => nomatch hp
theorem con_of {y : MethodName} {bytes : ByteArray} {maxL : Nat} {ret : Option FieldType} {wl : List Jvm.Cond} {rm : Room} {as' : Array Value} {ws : List Addr} {Q : Option Value → Heap → Prop} (hname : plainName y.cls = true) (hWE : W = false → EL = []) (hEL : EW Z a0 EL) (hO : Old Z Z.heap.size h) (hef : ∀ m, entryFrame m as' maxL = mkF m 0 ls [])
    (body : ∀ (p : Program) (e : Env) (s : State) (m : MethodId) (below : List Frame) (meth : Method) (c : Code), c.code = bytes → c.maxLocals = maxL → meth.sig.returnType = ret → meth.locks = false → meth.name = y.name → Go W EL Z a0 y.cls p l e rm s m as' below meth c (Fend W EL Z s h ws Q rm.cells rm.slots) h 0 0 (mkF m 0 ls [])) :
    Con W EL l Z y bytes maxL ret wl rm as' h ws Q := by
  refine MetFree.of_bodySF (plainFor_of_name hname) hisR ?_
  intro p e s m args below meth c s₁ Bd hml hP _
  obtain ⟨rfl, hZ, hh, hC⟩ := hP
  have X0 : Stand p l e rm s m args below meth c s₁ [] 0 0 := Stand.of_body Bd
  have e0 : s₁.heap = h := by rw [← hh, Bd.state]; rfl
  have hown : s.vm.findClass y.cls = some m.cls := findClass_of_methodNamed Bd.named
  have hnm := (name_of_methodNamed Bd.named Bd.method).1
  have hcv : CHv Z EL s.vm h := by
    cases W
    · rw [hWE rfl]; exact chv_nil
    · exact hC rfl
  have hcr : CHr Z EL s.vm s.heap s.vm h := by rw [hh]; exact CHr.refl hcv
  obtain ⟨t, o, h1, h2⟩ := body p e s m below meth c Bd.bytes hml Bd.returns Bd.notSynchronized hnm s₁ ⟨s.vm, h.size, [], fun _ => rfl, X0, e0, Bd.exec, hZ, hown, (State.WarmedH.refl s).since _, Nat.le_refl _, hEL, hcr, Fr.nil _, hO⟩
  exact ⟨t, o, castTop (hef m) h1, h2⟩
theorem pay_of {y : MethodName} {bytes : ByteArray} {maxL : Nat} {ret : Option FieldType} {rm : Room} {as' : Array Value} {ws : List Addr} {Q : Option Value → Heap → Prop} {Wd : Nat} (hM : Con false [] l Z y bytes maxL ret [] rm as' h ws Q) (wc : (Jvm.Cond.code y bytes maxL ret).before a0 Z = true) (wz : (Jvm.Cond.initialized y.cls).before a0 Z = true) (hf : rm.frames + 1 ≤ R.frames) (hl : Wd + (maxL + 11) + rm.locals ≤ R.locals) :
    Pay l R p e below Z y Wd as' h rm.cells rm.slots ws Q := by
  intro s args hZ
  refine backOf (Q := fun v h' L => Q v h' ∧ Fr Z.heap.size L ∧ Keep h h' ws) ?_ hZ wc wz hf hl
  intro p e h1 h2 h3 s m args below h4 h5 h6 h7
  obtain ⟨n, o, q1, q2, q3, v, L, rfl, hq, -, hF⟩ := hM p e h1 h2 h3 s m args below h4 h5 ⟨h6.1, h6.2.1, h6.2.2, fun q => nomatch q⟩ h7
  exact ⟨n, _, q1, q2, q3, v, L, rfl, hq, hF rfl⟩
theorem payW_of {y : MethodName} {bytes : ByteArray} {maxL : Nat} {ret : Option FieldType} {rm : Room} {as' : Array Value} {ws : List Addr} {Q : Option Value → Heap → Prop} {Wd : Nat} (hM : Con true EL l Z y bytes maxL ret [] rm as' h ws Q) (wc : (Jvm.Cond.code y bytes maxL ret).before a0 Z = true) (wz : (Jvm.Cond.initialized y.cls).before a0 Z = true) (hf : rm.frames + 1 ≤ R.frames) (hl : Wd + (maxL + 11) + rm.locals ≤ R.locals) (hEL : EW Z a0 EL) :
    PayW EL l R p e below Z y Wd as' h rm.cells rm.slots ws Q := by
  intro s vm0 args hZ H
  refine backOfSH (Q := fun v h' L => Q v h' ∧ Fr Z.heap.size L ∧ Keep h h' ws) ?_ hZ wc wz hf hl hEL H
  intro p e h1 h2 h3 s m args below h4 h5 h6 h7
  obtain ⟨n, o, q1, q2, q3, v, L, rfl, hq, hC, -⟩ := hM p e h1 h2 h3 s m args below h4 h5 ⟨h6.1, h6.2.1, h6.2.2.1, fun _ => h6.2.2.2⟩ h7
  exact ⟨n, _, q1, q2, q3, v, L, rfl, hq, (hC rfl).1, (hC rfl).2⟩
theorem go_old {g0 : JFrame} (k : Old Z Z.heap.size h → Go W EL Z a0 own p l e R s m args below meth c F h cells slots (g0)) : Go W EL Z a0 own p l e R s m args below meth c F h cells slots (g0) := by
  intro T P
  exact k P.choose_spec.choose_spec.choose_spec.2.2.2.2.2.2.2.2.2.2.2 T P
theorem go_pure {g g' : JFrame} (stp : ∀ T : State, At T m c below → p.tables.exec = Jvm.exec → ∀ target, Steps p.tables e below (T.setTop g') target → Steps p.tables e below (T.setTop g) target) (k : Go W EL Z a0 own p l e R s m args below meth c F h cells slots (g')) : Go W EL Z a0 own p l e R s m args below meth c F h cells slots (g) := by
  intro T P
  obtain ⟨t, o, h1, h2⟩ := k T P
  obtain ⟨vm0, k0, locs, -, X, -, hx, -⟩ := P
  exact ⟨t, o, stp T X.here hx _ h1, h2⟩
theorem go_iconst {i : Int} {v : Int32} (hd : decode c.code pc = .ok (.iconst i, 1)) (hp : pc + 1 = pc') (hv : Int32.ofInt i = v) (k : Go W EL Z a0 own p l e R s m args below meth c F h cells slots (mkF m pc' ls (.int v :: st))) : Go W EL Z a0 own p l e R s m args below meth c F h cells slots (mkF m pc ls st) := by
  subst hp hv
  exact go_pure (fun T ha hx target hr => XS.iconst ha hx rfl hd hr) k
theorem go_bipush {i : Int} {v : Int32} (hd : decode c.code pc = .ok (.bipush i, 2)) (hp : pc + 2 = pc') (hv : (Int8.ofInt i).toInt32 = v) (k : Go W EL Z a0 own p l e R s m args below meth c F h cells slots (mkF m pc' ls (.int v :: st))) : Go W EL Z a0 own p l e R s m args below meth c F h cells slots (mkF m pc ls st) := by
  subst hp hv
  exact go_pure (fun T ha hx target hr => XS.bipush ha hx rfl hd hr) k
theorem go_sipush {i : Int} {v : Int32} (hd : decode c.code pc = .ok (.sipush i, 3)) (hp : pc + 3 = pc') (hv : (Int16.ofInt i).toInt32 = v) (k : Go W EL Z a0 own p l e R s m args below meth c F h cells slots (mkF m pc' ls (.int v :: st))) : Go W EL Z a0 own p l e R s m args below meth c F h cells slots (mkF m pc ls st) := by
  subst hp hv
  exact go_pure (fun T ha hx target hr => XS.sipush ha hx rfl hd hr) k
theorem go_aconst_null  (hd : decode c.code pc = .ok (.aconst_null, 1)) (hp : pc + 1 = pc')  (k : Go W EL Z a0 own p l e R s m args below meth c F h cells slots (mkF m pc' ls (.null :: st))) : Go W EL Z a0 own p l e R s m args below meth c F h cells slots (mkF m pc ls (st)) := by
  subst hp
  exact go_pure (fun T ha hx target hr => XS.aconstNull ha hx rfl hd hr) k
theorem go_aload_n {i : Fin 4} {v : Value} (hd : decode c.code pc = .ok (.aload_n i, 1)) (hp : pc + 1 = pc') (hl : ls[i.val]? = some (.val v)) (hv : v.isRef = true) (k : Go W EL Z a0 own p l e R s m args below meth c F h cells slots (mkF m pc' ls (v :: st))) : Go W EL Z a0 own p l e R s m args below meth c F h cells slots (mkF m pc ls (st)) := by
  subst hp
  exact go_pure (fun T ha hx target hr => XS.aloadN ha hx rfl hd hl hv hr) k
theorem go_aload {i : Nat} {v : Value} (hd : decode c.code pc = .ok (.aload i, 2)) (hp : pc + 2 = pc') (hl : ls[i]? = some (.val v)) (hv : v.isRef = true) (k : Go W EL Z a0 own p l e R s m args below meth c F h cells slots (mkF m pc' ls (v :: st))) : Go W EL Z a0 own p l e R s m args below meth c F h cells slots (mkF m pc ls (st)) := by
  subst hp
  exact go_pure (fun T ha hx target hr => XS.aload ha hx rfl hd hl hv hr) k
theorem go_iload_n {i : Fin 4} {v : Int32} (hd : decode c.code pc = .ok (.iload_n i, 1)) (hp : pc + 1 = pc') (hl : ls[i.val]? = some (.val (.int v))) (k : Go W EL Z a0 own p l e R s m args below meth c F h cells slots (mkF m pc' ls (.int v :: st))) : Go W EL Z a0 own p l e R s m args below meth c F h cells slots (mkF m pc ls (st)) := by
  subst hp
  exact go_pure (fun T ha hx target hr => XS.iloadN ha hx rfl hd hl hr) k
theorem go_iload {i : Nat} {v : Int32} (hd : decode c.code pc = .ok (.iload i, 2)) (hp : pc + 2 = pc') (hl : ls[i]? = some (.val (.int v))) (k : Go W EL Z a0 own p l e R s m args below meth c F h cells slots (mkF m pc' ls (.int v :: st))) : Go W EL Z a0 own p l e R s m args below meth c F h cells slots (mkF m pc ls (st)) := by
  subst hp
  exact go_pure (fun T ha hx target hr => XS.iload ha hx rfl hd hl hr) k
theorem go_lload_n {i : Fin 4} {v : Int64} (hd : decode c.code pc = .ok (.lload_n i, 1)) (hp : pc + 1 = pc') (hl : ls[i.val]? = some (.val (.long v))) (k : Go W EL Z a0 own p l e R s m args below meth c F h cells slots (mkF m pc' ls (.long v :: st))) : Go W EL Z a0 own p l e R s m args below meth c F h cells slots (mkF m pc ls (st)) := by
  subst hp
  exact go_pure (fun T ha hx target hr => XT.lloadN ha hx rfl hd hl hr) k
theorem go_lload {i : Nat} {v : Int64} (hd : decode c.code pc = .ok (.lload i, 2)) (hp : pc + 2 = pc') (hl : ls[i]? = some (.val (.long v))) (k : Go W EL Z a0 own p l e R s m args below meth c F h cells slots (mkF m pc' ls (.long v :: st))) : Go W EL Z a0 own p l e R s m args below meth c F h cells slots (mkF m pc ls (st)) := by
  subst hp
  exact go_pure (fun T ha hx target hr => XT.lload ha hx rfl hd hl hr) k
theorem go_istore_n {i : Fin 4} {v : Int32} (hd : decode c.code pc = .ok (.istore_n i, 1)) (hp : pc + 1 = pc') (hl : storeLocals ls i.val (.int v) = some ls') (k : Go W EL Z a0 own p l e R s m args below meth c F h cells slots (mkF m pc' ls' (st))) : Go W EL Z a0 own p l e R s m args below meth c F h cells slots (mkF m pc ls (.int v :: st)) := by
  subst hp
  exact go_pure (fun T ha hx target hr => XS.istoreN ha hx rfl hd rfl hl hr) k
theorem go_istore {i : Nat} {v : Int32} (hd : decode c.code pc = .ok (.istore i, 2)) (hp : pc + 2 = pc') (hl : storeLocals ls i (.int v) = some ls') (k : Go W EL Z a0 own p l e R s m args below meth c F h cells slots (mkF m pc' ls' (st))) : Go W EL Z a0 own p l e R s m args below meth c F h cells slots (mkF m pc ls (.int v :: st)) := by
  subst hp
  exact go_pure (fun T ha hx target hr => XS.istore ha hx rfl hd rfl hl hr) k
theorem go_astore_n {i : Fin 4} {v : Value} (hd : decode c.code pc = .ok (.astore_n i, 1)) (hp : pc + 1 = pc') (hv : v.isRef = true) (hl : storeLocals ls i.val v = some ls') (k : Go W EL Z a0 own p l e R s m args below meth c F h cells slots (mkF m pc' ls' (st))) : Go W EL Z a0 own p l e R s m args below meth c F h cells slots (mkF m pc ls (v :: st)) := by
  subst hp
  exact go_pure (fun T ha hx target hr => XS.astoreN ha hx rfl hd rfl hv hl hr) k
theorem go_astore {i : Nat} {v : Value} (hd : decode c.code pc = .ok (.astore i, 2)) (hp : pc + 2 = pc') (hv : v.isRef = true) (hl : storeLocals ls i v = some ls') (k : Go W EL Z a0 own p l e R s m args below meth c F h cells slots (mkF m pc' ls' (st))) : Go W EL Z a0 own p l e R s m args below meth c F h cells slots (mkF m pc ls (v :: st)) := by
  subst hp
  exact go_pure (fun T ha hx target hr => XS.astore ha hx rfl hd rfl hv hl hr) k
theorem go_lstore_n {i : Fin 4} {v : Int64} (hd : decode c.code pc = .ok (.lstore_n i, 1)) (hp : pc + 1 = pc') (hl : storeLocals ls i.val (.long v) = some ls') (k : Go W EL Z a0 own p l e R s m args below meth c F h cells slots (mkF m pc' ls' (st))) : Go W EL Z a0 own p l e R s m args below meth c F h cells slots (mkF m pc ls (.long v :: st)) := by
  subst hp
  exact go_pure (fun T ha hx target hr => XT.lstoreN ha hx rfl hd rfl hl hr) k
theorem go_lstore {i : Nat} {v : Int64} (hd : decode c.code pc = .ok (.lstore i, 2)) (hp : pc + 2 = pc') (hl : storeLocals ls i (.long v) = some ls') (k : Go W EL Z a0 own p l e R s m args below meth c F h cells slots (mkF m pc' ls' (st))) : Go W EL Z a0 own p l e R s m args below meth c F h cells slots (mkF m pc ls (.long v :: st)) := by
  subst hp
  exact go_pure (fun T ha hx target hr => XT.lstore ha hx rfl hd rfl hl hr) k
theorem go_iadd {x y z : Int32} (hd : decode c.code pc = .ok (.iadd, 1)) (hp : pc + 1 = pc') (hz : x + y = z) (k : Go W EL Z a0 own p l e R s m args below meth c F h cells slots (mkF m pc' ls (.int z :: st))) : Go W EL Z a0 own p l e R s m args below meth c F h cells slots (mkF m pc ls (.int y :: .int x :: st)) := by
  subst hp hz
  exact go_pure (fun T ha hx target hr => XS.iadd ha hx rfl hd rfl hr) k
theorem go_isub {x y z : Int32} (hd : decode c.code pc = .ok (.isub, 1)) (hp : pc + 1 = pc') (hz : x - y = z) (k : Go W EL Z a0 own p l e R s m args below meth c F h cells slots (mkF m pc' ls (.int z :: st))) : Go W EL Z a0 own p l e R s m args below meth c F h cells slots (mkF m pc ls (.int y :: .int x :: st)) := by
  subst hp hz
  exact go_pure (fun T ha hx target hr => XS.isub ha hx rfl hd rfl hr) k
theorem go_imul {x y z : Int32} (hd : decode c.code pc = .ok (.imul, 1)) (hp : pc + 1 = pc') (hz : x * y = z) (k : Go W EL Z a0 own p l e R s m args below meth c F h cells slots (mkF m pc' ls (.int z :: st))) : Go W EL Z a0 own p l e R s m args below meth c F h cells slots (mkF m pc ls (.int y :: .int x :: st)) := by
  subst hp hz
  exact go_pure (fun T ha hx target hr => XS.imul ha hx rfl hd rfl hr) k
theorem go_iand {x y z : Int32} (hd : decode c.code pc = .ok (.iand, 1)) (hp : pc + 1 = pc') (hz : x &&& y = z) (k : Go W EL Z a0 own p l e R s m args below meth c F h cells slots (mkF m pc' ls (.int z :: st))) : Go W EL Z a0 own p l e R s m args below meth c F h cells slots (mkF m pc ls (.int y :: .int x :: st)) := by
  subst hp hz
  exact go_pure (fun T ha hx target hr => XS.iand ha hx rfl hd rfl hr) k
theorem go_ior {x y z : Int32} (hd : decode c.code pc = .ok (.ior, 1)) (hp : pc + 1 = pc') (hz : x ||| y = z) (k : Go W EL Z a0 own p l e R s m args below meth c F h cells slots (mkF m pc' ls (.int z :: st))) : Go W EL Z a0 own p l e R s m args below meth c F h cells slots (mkF m pc ls (.int y :: .int x :: st)) := by
  subst hp hz
  exact go_pure (fun T ha hx target hr => XT.ior ha hx rfl hd rfl hr) k
theorem go_ixor {x y z : Int32} (hd : decode c.code pc = .ok (.ixor, 1)) (hp : pc + 1 = pc') (hz : x ^^^ y = z) (k : Go W EL Z a0 own p l e R s m args below meth c F h cells slots (mkF m pc' ls (.int z :: st))) : Go W EL Z a0 own p l e R s m args below meth c F h cells slots (mkF m pc ls (.int y :: .int x :: st)) := by
  subst hp hz
  exact go_pure (fun T ha hx target hr => XT.ixor ha hx rfl hd rfl hr) k
theorem go_ishl {x y z : Int32} (hd : decode c.code pc = .ok (.ishl, 1)) (hp : pc + 1 = pc') (hz : x <<< (y &&& 31) = z) (k : Go W EL Z a0 own p l e R s m args below meth c F h cells slots (mkF m pc' ls (.int z :: st))) : Go W EL Z a0 own p l e R s m args below meth c F h cells slots (mkF m pc ls (.int y :: .int x :: st)) := by
  subst hp hz
  exact go_pure (fun T ha hx target hr => XT.ishl ha hx rfl hd rfl hr) k
theorem go_ishr {x y z : Int32} (hd : decode c.code pc = .ok (.ishr, 1)) (hp : pc + 1 = pc') (hz : x >>> (y &&& 31) = z) (k : Go W EL Z a0 own p l e R s m args below meth c F h cells slots (mkF m pc' ls (.int z :: st))) : Go W EL Z a0 own p l e R s m args below meth c F h cells slots (mkF m pc ls (.int y :: .int x :: st)) := by
  subst hp hz
  exact go_pure (fun T ha hx target hr => XT.ishr ha hx rfl hd rfl hr) k
theorem go_iushr {x y z : Int32} (hd : decode c.code pc = .ok (.iushr, 1)) (hp : pc + 1 = pc') (hz : XT.ushr x y = z) (k : Go W EL Z a0 own p l e R s m args below meth c F h cells slots (mkF m pc' ls (.int z :: st))) : Go W EL Z a0 own p l e R s m args below meth c F h cells slots (mkF m pc ls (.int y :: .int x :: st)) := by
  subst hp hz
  exact go_pure (fun T ha hx target hr => XT.iushr ha hx rfl hd rfl hr) k
theorem go_idiv {x y z : Int32} (hd : decode c.code pc = .ok (.idiv, 1)) (hp : pc + 1 = pc') (hy : y ≠ 0) (hz : x / y = z) (k : Go W EL Z a0 own p l e R s m args below meth c F h cells slots (mkF m pc' ls (.int z :: st))) : Go W EL Z a0 own p l e R s m args below meth c F h cells slots (mkF m pc ls (.int y :: .int x :: st)) := by
  subst hp hz
  exact go_pure (fun T ha hx target hr => XS.idiv ha hx rfl hd rfl hy hr) k
theorem go_irem {x y z : Int32} (hd : decode c.code pc = .ok (.irem, 1)) (hp : pc + 1 = pc') (hy : y ≠ 0) (hz : x % y = z) (k : Go W EL Z a0 own p l e R s m args below meth c F h cells slots (mkF m pc' ls (.int z :: st))) : Go W EL Z a0 own p l e R s m args below meth c F h cells slots (mkF m pc ls (.int y :: .int x :: st)) := by
  subst hp hz
  intro T P
  obtain ⟨t, o, h1, h2⟩ := k T P
  obtain ⟨vm0, k0, locs, -, X, -, hx, -⟩ := P
  exact ⟨t, o, iremM X hx rfl hd rfl hy h1, h2⟩
theorem go_ineg {x : Int32} {z : Int32} (hd : decode c.code pc = .ok (.ineg, 1)) (hp : pc + 1 = pc') (hz : -x = z) (k : Go W EL Z a0 own p l e R s m args below meth c F h cells slots (mkF m pc' ls (.int z :: st))) : Go W EL Z a0 own p l e R s m args below meth c F h cells slots (mkF m pc ls (.int x :: st)) := by
  subst hp hz
  exact go_pure (fun T ha hx target hr => XS.ineg ha hx rfl hd rfl hr) k
theorem go_i2c {x : Int32} {z : Int32} (hd : decode c.code pc = .ok (.i2c, 1)) (hp : pc + 1 = pc') (hz : x.toUInt32.toUInt16.toUInt32.toInt32 = z) (k : Go W EL Z a0 own p l e R s m args below meth c F h cells slots (mkF m pc' ls (.int z :: st))) : Go W EL Z a0 own p l e R s m args below meth c F h cells slots (mkF m pc ls (.int x :: st)) := by
  subst hp hz
  exact go_pure (fun T ha hx target hr => XT.i2c ha hx rfl hd rfl hr) k
theorem go_i2b {x : Int32} {z : Int32} (hd : decode c.code pc = .ok (.i2b, 1)) (hp : pc + 1 = pc') (hz : x.toInt8.toInt32 = z) (k : Go W EL Z a0 own p l e R s m args below meth c F h cells slots (mkF m pc' ls (.int z :: st))) : Go W EL Z a0 own p l e R s m args below meth c F h cells slots (mkF m pc ls (.int x :: st)) := by
  subst hp hz
  exact go_pure (fun T ha hx target hr => XT.i2b ha hx rfl hd rfl hr) k
theorem go_i2l {x : Int32} {z : Int64} (hd : decode c.code pc = .ok (.i2l, 1)) (hp : pc + 1 = pc') (hz : x.toInt64 = z) (k : Go W EL Z a0 own p l e R s m args below meth c F h cells slots (mkF m pc' ls (.long z :: st))) : Go W EL Z a0 own p l e R s m args below meth c F h cells slots (mkF m pc ls (.int x :: st)) := by
  subst hp hz
  exact go_pure (fun T ha hx target hr => XT.i2l ha hx rfl hd rfl hr) k
theorem go_l2i {x : Int64} {z : Int32} (hd : decode c.code pc = .ok (.l2i, 1)) (hp : pc + 1 = pc') (hz : x.toInt32 = z) (k : Go W EL Z a0 own p l e R s m args below meth c F h cells slots (mkF m pc' ls (.int z :: st))) : Go W EL Z a0 own p l e R s m args below meth c F h cells slots (mkF m pc ls (.long x :: st)) := by
  subst hp hz
  exact go_pure (fun T ha hx target hr => XT.l2i ha hx rfl hd rfl hr) k
theorem go_lneg {x : Int64} {z : Int64} (hd : decode c.code pc = .ok (.lneg, 1)) (hp : pc + 1 = pc') (hz : -x = z) (k : Go W EL Z a0 own p l e R s m args below meth c F h cells slots (mkF m pc' ls (.long z :: st))) : Go W EL Z a0 own p l e R s m args below meth c F h cells slots (mkF m pc ls (.long x :: st)) := by
  subst hp hz
  exact go_pure (fun T ha hx target hr => XT.lneg ha hx rfl hd rfl hr) k
theorem go_land {x y z : Int64} (hd : decode c.code pc = .ok (.land, 1)) (hp : pc + 1 = pc') (hz : x &&& y = z) (k : Go W EL Z a0 own p l e R s m args below meth c F h cells slots (mkF m pc' ls (.long z :: st))) : Go W EL Z a0 own p l e R s m args below meth c F h cells slots (mkF m pc ls (.long y :: .long x :: st)) := by
  subst hp hz
  exact go_pure (fun T ha hx target hr => XT.land ha hx rfl hd rfl hr) k
theorem go_ladd {x y z : Int64} (hd : decode c.code pc = .ok (.ladd, 1)) (hp : pc + 1 = pc') (hz : x + y = z) (k : Go W EL Z a0 own p l e R s m args below meth c F h cells slots (mkF m pc' ls (.long z :: st))) : Go W EL Z a0 own p l e R s m args below meth c F h cells slots (mkF m pc ls (.long y :: .long x :: st)) := by
  subst hp hz
  exact go_pure (fun T ha hx target hr => XT.ladd ha hx rfl hd rfl hr) k
theorem go_lsub {x y z : Int64} (hd : decode c.code pc = .ok (.lsub, 1)) (hp : pc + 1 = pc') (hz : x - y = z) (k : Go W EL Z a0 own p l e R s m args below meth c F h cells slots (mkF m pc' ls (.long z :: st))) : Go W EL Z a0 own p l e R s m args below meth c F h cells slots (mkF m pc ls (.long y :: .long x :: st)) := by
  subst hp hz
  exact go_pure (fun T ha hx target hr => XT.lsub ha hx rfl hd rfl hr) k
theorem go_ldiv {x y z : Int64} (hd : decode c.code pc = .ok (.ldiv, 1)) (hp : pc + 1 = pc') (hy : y ≠ 0) (hz : x / y = z) (k : Go W EL Z a0 own p l e R s m args below meth c F h cells slots (mkF m pc' ls (.long z :: st))) : Go W EL Z a0 own p l e R s m args below meth c F h cells slots (mkF m pc ls (.long y :: .long x :: st)) := by
  subst hp hz
  exact go_pure (fun T ha hx target hr => XT.ldiv ha hx rfl hd rfl hy hr) k
theorem go_lrem {x y z : Int64} (hd : decode c.code pc = .ok (.lrem, 1)) (hp : pc + 1 = pc') (hy : y ≠ 0) (hz : x - (x / y) * y = z) (k : Go W EL Z a0 own p l e R s m args below meth c F h cells slots (mkF m pc' ls (.long z :: st))) : Go W EL Z a0 own p l e R s m args below meth c F h cells slots (mkF m pc ls (.long y :: .long x :: st)) := by
  subst hp hz
  exact go_pure (fun T ha hx target hr => XT.lrem ha hx rfl hd rfl hy hr) k
theorem go_lcmp {x y : Int64} (hd : decode c.code pc = .ok (.lcmp, 1)) (hp : pc + 1 = pc') (k : Go W EL Z a0 own p l e R s m args below meth c F h cells slots (mkF m pc' ls (.int (XT.cmpL x y) :: st))) : Go W EL Z a0 own p l e R s m args below meth c F h cells slots (mkF m pc ls (.long y :: .long x :: st)) := by
  subst hp
  exact go_pure (fun T ha hx target hr => XT.lcmp ha hx rfl hd rfl hr) k
theorem go_lushr {x z : Int64} {y : Int32} (hd : decode c.code pc = .ok (.lushr, 1)) (hp : pc + 1 = pc') (hz : XT.ushrL x y = z) (k : Go W EL Z a0 own p l e R s m args below meth c F h cells slots (mkF m pc' ls (.long z :: st))) : Go W EL Z a0 own p l e R s m args below meth c F h cells slots (mkF m pc ls (.int y :: .long x :: st)) := by
  subst hp hz
  exact go_pure (fun T ha hx target hr => XT.lushr ha hx rfl hd rfl hr) k
theorem go_lconst {i : Fin 2} {v : Int64} (hd : decode c.code pc = .ok (.lconst i, 1)) (hp : pc + 1 = pc') (hv : Int64.ofNat i = v) (k : Go W EL Z a0 own p l e R s m args below meth c F h cells slots (mkF m pc' ls (.long v :: st))) : Go W EL Z a0 own p l e R s m args below meth c F h cells slots (mkF m pc ls st) := by
  subst hp hv
  exact go_pure (fun T ha hx target hr => XT.lconst ha hx rfl hd hr) k
theorem go_dup {v : Value} (hd : decode c.code pc = .ok (.dup, 1)) (hp : pc + 1 = pc') (hc : v.category = 1) (k : Go W EL Z a0 own p l e R s m args below meth c F h cells slots (mkF m pc' ls (v :: v :: st))) : Go W EL Z a0 own p l e R s m args below meth c F h cells slots (mkF m pc ls (v :: st)) := by
  subst hp
  exact go_pure (fun T ha hx target hr => XS.dup ha hx rfl hd rfl hc hr) k
theorem go_dup_x1 {v w : Value} (hd : decode c.code pc = .ok (.dup_x1, 1)) (hp : pc + 1 = pc') (hc : v.category = 1) (hc' : w.category = 1) (k : Go W EL Z a0 own p l e R s m args below meth c F h cells slots (mkF m pc' ls (v :: w :: v :: st))) : Go W EL Z a0 own p l e R s m args below meth c F h cells slots (mkF m pc ls (v :: w :: st)) := by
  subst hp
  exact go_pure (fun T ha hx target hr => XT.dupX1 ha hx rfl hd rfl hc hc' hr) k
theorem go_pop {v : Value} (hd : decode c.code pc = .ok (.pop, 1)) (hp : pc + 1 = pc') (hc : v.category = 1) (k : Go W EL Z a0 own p l e R s m args below meth c F h cells slots (mkF m pc' ls (st))) : Go W EL Z a0 own p l e R s m args below meth c F h cells slots (mkF m pc ls (v :: st)) := by
  subst hp
  exact go_pure (fun T ha hx target hr => XT.pop ha hx rfl hd rfl hc hr) k
theorem go_iinc {i : Nat} {q : Int} {x : Int32} (hd : decode c.code pc = .ok (.iinc i q, 3)) (hp : pc + 3 = pc') (hl : ls[i]? = some (.val (.int x))) {y : Int32} (hy : x + Int32.ofInt q = y) (hl' : storeLocals ls i (.int y) = some ls') (k : Go W EL Z a0 own p l e R s m args below meth c F h cells slots (mkF m pc' ls' st)) : Go W EL Z a0 own p l e R s m args below meth c F h cells slots (mkF m pc ls st) := by
  subst hp hy
  exact go_pure (fun T ha hx target hr => XS.iinc ha hx rfl hd hl hl' hr) k
theorem go_goto {o : Int} (hd : decode c.code pc = .ok (.goto o, 3)) (ho : 0 ≤ (pc : Int) + o) (hp : ((pc : Int) + o).toNat = pc') (k : Go W EL Z a0 own p l e R s m args below meth c F h cells slots (mkF m pc' ls st)) : Go W EL Z a0 own p l e R s m args below meth c F h cells slots (mkF m pc ls st) :=
  go_pure (fun T ha hx target hr => XS.goto ha hx rfl rfl hd ho hp hr) k
theorem go_ifT {o : Int} {cd : ClassFile.Cond} {x : Int32} (hd : decode c.code pc = .ok (.ifCond cd o, 3)) (ho : 0 ≤ (pc : Int) + o) (hp : ((pc : Int) + o).toNat = pc') (hc : ifCond.holds cd x = true) (k : Go W EL Z a0 own p l e R s m args below meth c F h cells slots (mkF m pc' ls st)) : Go W EL Z a0 own p l e R s m args below meth c F h cells slots (mkF m pc ls (.int x :: st)) :=
  go_pure (fun T ha hx target hr => XS.ifYes ha hx rfl rfl hd rfl hc ho hp hr) k
theorem go_ifF {o : Int} {cd : ClassFile.Cond} {x : Int32} (hd : decode c.code pc = .ok (.ifCond cd o, 3)) (hp : pc + 3 = pc') (hc : ifCond.holds cd x = false) (k : Go W EL Z a0 own p l e R s m args below meth c F h cells slots (mkF m pc' ls st)) : Go W EL Z a0 own p l e R s m args below meth c F h cells slots (mkF m pc ls (.int x :: st)) := by
  subst hp
  exact go_pure (fun T ha hx target hr => XS.ifNo ha hx rfl hd rfl hc hr) k
theorem go_icT {o : Int} {cd : ClassFile.Cond} {x y : Int32} (hd : decode c.code pc = .ok (.if_icmp cd o, 3)) (ho : 0 ≤ (pc : Int) + o) (hp : ((pc : Int) + o).toNat = pc') (hc : if_icmp.holds cd x y = true) (k : Go W EL Z a0 own p l e R s m args below meth c F h cells slots (mkF m pc' ls st)) : Go W EL Z a0 own p l e R s m args below meth c F h cells slots (mkF m pc ls (.int y :: .int x :: st)) :=
  go_pure (fun T ha hx target hr => XS.icmpYes ha hx rfl rfl hd rfl hc ho hp hr) k
theorem go_icF {o : Int} {cd : ClassFile.Cond} {x y : Int32} (hd : decode c.code pc = .ok (.if_icmp cd o, 3)) (hp : pc + 3 = pc') (hc : if_icmp.holds cd x y = false) (k : Go W EL Z a0 own p l e R s m args below meth c F h cells slots (mkF m pc' ls st)) : Go W EL Z a0 own p l e R s m args below meth c F h cells slots (mkF m pc ls (.int y :: .int x :: st)) := by
  subst hp
  exact go_pure (fun T ha hx target hr => XS.icmpNo ha hx rfl hd rfl hc hr) k
theorem go_acT {o : Int} {cd : ClassFile.ACond} {x y : Value} (hd : decode c.code pc = .ok (.if_acmp cd o, 3)) (ho : 0 ≤ (pc : Int) + o) (hp : ((pc : Int) + o).toNat = pc') (hx1 : x.isRef = true) (hy1 : y.isRef = true) (hc : XT.acmp cd x y = true) (k : Go W EL Z a0 own p l e R s m args below meth c F h cells slots (mkF m pc' ls st)) : Go W EL Z a0 own p l e R s m args below meth c F h cells slots (mkF m pc ls (y :: x :: st)) :=
  go_pure (fun T ha hx target hr => XT.acmpYes ha hx rfl rfl hd rfl hx1 hy1 hc ho hp hr) k
theorem go_acF {o : Int} {cd : ClassFile.ACond} {x y : Value} (hd : decode c.code pc = .ok (.if_acmp cd o, 3)) (hp : pc + 3 = pc') (hx1 : x.isRef = true) (hy1 : y.isRef = true) (hc : XT.acmp cd x y = false) (k : Go W EL Z a0 own p l e R s m args below meth c F h cells slots (mkF m pc' ls st)) : Go W EL Z a0 own p l e R s m args below meth c F h cells slots (mkF m pc ls (y :: x :: st)) := by
  subst hp
  exact go_pure (fun T ha hx target hr => XT.acmpNo ha hx rfl hd rfl hx1 hy1 hc hr) k
theorem go_nullT {o : Int} (hd : decode c.code pc = .ok (.ifnull o, 3)) (ho : 0 ≤ (pc : Int) + o) (hp : ((pc : Int) + o).toNat = pc') (k : Go W EL Z a0 own p l e R s m args below meth c F h cells slots (mkF m pc' ls st)) : Go W EL Z a0 own p l e R s m args below meth c F h cells slots (mkF m pc ls (.null :: st)) :=
  go_pure (fun T ha hx target hr => XS.ifnullYes ha hx rfl rfl hd rfl ho hp hr) k
theorem go_nullF {o : Int} {b : Addr} (hd : decode c.code pc = .ok (.ifnull o, 3)) (hp : pc + 3 = pc') (k : Go W EL Z a0 own p l e R s m args below meth c F h cells slots (mkF m pc' ls st)) : Go W EL Z a0 own p l e R s m args below meth c F h cells slots (mkF m pc ls (.ref b :: st)) := by
  subst hp
  exact go_pure (fun T ha hx target hr => XS.ifnullNo ha hx rfl hd rfl hr) k
theorem go_nnT {o : Int} {b : Addr} (hd : decode c.code pc = .ok (.ifnonnull o, 3)) (ho : 0 ≤ (pc : Int) + o) (hp : ((pc : Int) + o).toNat = pc') (k : Go W EL Z a0 own p l e R s m args below meth c F h cells slots (mkF m pc' ls st)) : Go W EL Z a0 own p l e R s m args below meth c F h cells slots (mkF m pc ls (.ref b :: st)) :=
  go_pure (fun T ha hx target hr => XT.ifnonnullYes ha hx rfl rfl hd rfl ho hp hr) k
theorem go_nnF {o : Int} (hd : decode c.code pc = .ok (.ifnonnull o, 3)) (hp : pc + 3 = pc') (k : Go W EL Z a0 own p l e R s m args below meth c F h cells slots (mkF m pc' ls st)) : Go W EL Z a0 own p l e R s m args below meth c F h cells slots (mkF m pc ls (.null :: st)) := by
  subst hp
  exact go_pure (fun T ha hx target hr => XT.ifnonnullNo ha hx rfl hd rfl hr) k
theorem go_getF {a : Addr} {v : Value} {R0 O n d : String} {index : Nat} (w : (Jvm.Cond.fieldLink own index R0 n d).before a0 Z = true) (via : Via Z R0 O n d) (F0 : Fld Z h a O n d v) (hd : decode c.code pc = .ok (.getfield index, 3)) (hp : pc + 3 = pc') (k : Go W EL Z a0 own p l e R s m args below meth c F h cells slots (mkF m pc' ls (v :: st))) : Go W EL Z a0 own p l e R s m args below meth c F h cells slots (mkF m pc ls (.ref a :: st)) := by
  subst hp
  intro T P
  obtain ⟨vm0, k0, locs, hWf, X, eT, hx, hZ, hown, hS, hk, hEL, hC, hN, hO⟩ := P
  obtain ⟨T', X', e', st'⟩ := getF X hx hZ hown (host := "") (Or.inl w) via eT F0 (g := mkF m pc ls (.ref a :: st)) rfl rfl hd
  obtain ⟨t, o, h1, h2⟩ := k T' ⟨vm0, k0, locs, hWf, X', e', hx, hZ, hown, hS, hk, hEL, hC, hN, hO⟩
  exact ⟨t, o, st' _ h1, h2⟩
theorem go_getS {v : Value} {O n d : String} {index : Nat} (w : (Jvm.Cond.fieldLink own index O n d).before a0 Z = true) (F0 : Sta Z h O n d v) (hd : decode c.code pc = .ok (.getstatic index, 3)) (hp : pc + 3 = pc') (k : Go W EL Z a0 own p l e R s m args below meth c F h cells slots (mkF m pc' ls (v :: st))) : Go W EL Z a0 own p l e R s m args below meth c F h cells slots (mkF m pc ls st) := by
  subst hp
  intro T P
  obtain ⟨vm0, k0, locs, hWf, X, eT, hx, hZ, hown, hS, hk, hEL, hC, hN, hO⟩ := P
  obtain ⟨T', X', e', st'⟩ := getS X hx hZ hown (host := "") w Via.refl eT F0 (g := mkF m pc ls st) rfl hd
  obtain ⟨t, o, h1, h2⟩ := k T' ⟨vm0, k0, locs, hWf, X', e', hx, hZ, hown, hS, hk, hEL, hC, hN, hO⟩
  exact ⟨t, o, st' _ h1, h2⟩
theorem safe_of {vm : Vm} {a : Addr} {C : String} (hal : Z.vm.Alike vm) (E : Exa Z h a C) (hs : (C ≠ "java/lang/String" ∧ C ≠ "[B") ∨ EL = []) : Safe Z EL vm h a := by
  rcases hs with hs | rfl
  · exact Safe.exa hal E hs.1 hs.2
  · exact safe_nil
theorem go_putF {a : Addr} {v v' old : Value} {R0 O n d C : String} {index kk : Nat} {ty : FieldType} (w : (Jvm.Cond.fieldLink own index R0 n d).before a0 Z = true) (via : Via Z R0 O n d) (F0 : Fld Z h a O n d old) (E : Exa Z h a C) (L : (Jvm.Cond.lays C O n d).before a0 Z = true ∨ ((Jvm.Cond.laysFinal C O n d).before a0 Z = true ∧ own = O ∧ meth.name = "<init>")) (wi : (Jvm.Cond.instantiable C kk).before a0 Z = true)
    (hty : parseFieldDescriptor d = some ty) (hn : narrow ty v = v') (hf : fits ty v' = true) (ha : Z.heap.size ≤ a) (hs : (C ≠ "java/lang/String" ∧ C ≠ "[B") ∨ EL = []) (hd : decode c.code pc = .ok (.putfield index, 3)) (hp : pc + 3 = pc')
    (k : ∀ h', Wr h h' a (Jvm.RoadKit.slotOf Z O n d) v' → Go W EL Z a0 own p l e R s m args below meth c F h' cells slots (mkF m pc' ls st)) : Go W EL Z a0 own p l e R s m args below meth c F h cells slots (mkF m pc ls (v :: .ref a :: st)) := by
  subst hp
  intro T P
  obtain ⟨vm0, k0, locs, hWf, X, eT, hx, hZ, hown, hS, hk, hEL, hC, hN, hO⟩ := P
  obtain ⟨T', h', X', e', W', st'⟩ := putFN X hx hZ hown w via eT F0 E L wi hty hn hf (g := mkF m pc ls (v :: .ref a :: st)) rfl rfl hd
  have S0 : Safe Z EL vm0 h a := safe_of hZ.alike E hs
  obtain ⟨t, o, h1, h2⟩ := k h' W' T' ⟨vm0, k0, _, hWf, X', e', hx, hZ, hown, hS, by rw [W'.size]; exact hk, hEL, hC.trans (CHr.wr W' S0 hC.1), Fr.snoc X' hN ha, hO.wr W' ha⟩
  exact ⟨t, o, st' _ h1, h2⟩
theorem go_newO {C : String} {index n : Nat} (w : (Jvm.Cond.classLink own index C).before a0 Z = true) (wi : (Jvm.Cond.instantiable C n).before a0 Z = true) (wz : (Jvm.Cond.initialized C).before a0 Z = true) (hd : decode c.code pc = .ok (.new index, 3)) (hp : pc + 3 = pc') (hcl : cells + 1 = cells') (hsl : slots + n = slots') (hc : cells' ≤ R.cells) (hl : slots' ≤ R.slots)
    (k : ∀ (h' : Heap) (a : Addr), h.size = a → Ext h h' → Exa Z h' a C → (∀ {O nm d : String} {ty : FieldType}, Laid Z a0 C O nm d → parseFieldDescriptor d = some ty → Fld Z h' a O nm d (defaultValue ty)) → Unt h' a → Go W EL Z a0 own p l e R s m args below meth c F h' cells' slots' (mkF m pc' ls (.ref a :: st))) : Go W EL Z a0 own p l e R s m args below meth c F h cells slots (mkF m pc ls st) := by
  subst hp hcl hsl
  intro T P
  obtain ⟨vm0, k0, locs, hWf, X, eT, hx, hZ, hown, hS, hk, hEL, hC, hN, hO⟩ := P
  obtain ⟨T', h', X', e', E', A', D', U', st'⟩ := newO X hx hZ hown w wi wz eT (g := mkF m pc ls st) rfl hd hc hl
  obtain ⟨t, o, h1, h2⟩ := k h' h.size rfl E' A' D' U' T' ⟨vm0, k0, _, hWf, X', e', hx, hZ, hown, hS, Nat.le_trans hk E'.1, hEL, hC.trans (CHr.ext E' hC.1), hN, hO.ext E'⟩
  exact ⟨t, o, st' _ h1, h2⟩
theorem go_newP {aty : ArrayType} {n : Int32} {cap : Nat} {vs : List Value} {ty : FieldType} {dv : Value} (w : (Jvm.Cond.arrayClass ty).before a0 Z = true) (hty : newarray.typeOf aty = ty) (hdv : defaultValue ty = dv) (hd : decode c.code pc = .ok (.newarray aty, 2)) (hp : pc + 2 = pc') (hn : ¬ n < 0) (hcap : n.toNatClampNeg = cap) (hb : cap * 8 ≤ 536870912) (hvs : List.replicate cap dv = vs) (hcl : cells + 1 = cells') (hsl : slots + cap = slots') (hc : cells' ≤ R.cells) (hl : slots' ≤ R.slots)
    (k : ∀ (h' : Heap) (a : Addr) (kA : ClassId), h.size = a → Ext h h' → Arv Z h' a kA ty n vs dv → Go W EL Z a0 own p l e R s m args below meth c F h' cells' slots' (mkF m pc' ls (.ref a :: st))) : Go W EL Z a0 own p l e R s m args below meth c F h cells slots (mkF m pc ls (.int n :: st)) := by
  subst hp hcl hsl hty hdv hvs
  intro T P
  obtain ⟨vm0, k0, locs, hWf, X, eT, hx, hZ, hown, hS, hk, hEL, hC, hN, hO⟩ := P
  obtain ⟨T', h', kA, X', e', E', A', st'⟩ := newP X hx hZ w eT (g := mkF m pc ls (.int n :: st)) rfl hd rfl hn (cap := cap) (Nat.le_of_eq hcap) hb hc hl
  have V : Arv Z h' h.size kA (newarray.typeOf aty) n (List.replicate cap (defaultValue (newarray.typeOf aty))) (defaultValue (newarray.typeOf aty)) := by
    have q := (Arv.new A' hn).pad (pad_rep [] (defaultValue (newarray.typeOf aty)) cap)
    simpa using q
  obtain ⟨t, o, h1, h2⟩ := k h' h.size kA rfl E' V T' ⟨vm0, k0, _, hWf, X', e', hx, hZ, hown, hS, Nat.le_trans hk E'.1, hEL, hC.trans (CHr.ext E' hC.1), hN, hO.ext E'⟩
  exact ⟨t, o, st' _ h1, h2⟩
theorem go_stC {a : Addr} {kA : ClassId} {z j x x' : Int32} {vs vs' : List Value} {dv : Value} {i : Nat} (A : Arv Z h a kA .char z vs dv) (ha : Z.heap.size ≤ a) (hj0 : ¬ j < 0) (hjz : j < z) (hji : j.toNatClampNeg = i) (hi : i < vs.length) (hx' : x.toUInt32.toUInt16.toUInt32.toInt32 = x') (hvs : vs.set i (.int x') = vs') (hd : decode c.code pc = .ok (.castore, 1)) (hp : pc + 1 = pc')
    (k : ∀ h', Wr h h' a i (.int x') → Arv Z h' a kA .char z vs' dv → Go W EL Z a0 own p l e R s m args below meth c F h' cells slots (mkF m pc' ls st)) : Go W EL Z a0 own p l e R s m args below meth c F h cells slots (mkF m pc ls (.int x :: .int j :: .ref a :: st)) := by
  subst hp hx' hvs hji
  intro T P
  obtain ⟨vm0, k0, locs, hWf, X, eT, hx, hZ, hown, hS, hk, hEL, hC, hN, hO⟩ := P
  obtain ⟨cl, Ar, q1, S1, N1, H1, G1⟩ := A
  obtain ⟨T', h', X', e', W', st'⟩ := stC X hx hZ eT Ar (j := j) (inb_of S1 ⟨hj0, hjz⟩) (g := mkF m pc ls (.int x :: .int j :: .ref a :: st)) rfl rfl hd
  have S0 : Safe Z EL vm0 h a := Safe.arr hZ.alike Ar (by decide)
  obtain ⟨t, o, h1, h2⟩ := k h' W' (Arv.set Ar q1 S1 N1 H1 G1 (fits_nar_char _) W' _ rfl hi) T' ⟨vm0, k0, _, hWf, X', e', hx, hZ, hown, hS, by rw [W'.size]; exact hk, hEL, hC.trans (CHr.wr W' S0 hC.1), Fr.snoc X' hN ha, hO.wr W' ha⟩
  exact ⟨t, o, st' _ h1, h2⟩
theorem go_stB {a : Addr} {kA : ClassId} {z j x x' : Int32} {vs vs' : List Value} {dv : Value} {i : Nat} (hE : EL = []) (A : Arv Z h a kA .byte z vs dv) (ha : Z.heap.size ≤ a) (hj0 : ¬ j < 0) (hjz : j < z) (hji : j.toNatClampNeg = i) (hi : i < vs.length) (hx' : x.toInt8.toInt32 = x') (hvs : vs.set i (.int x') = vs') (hd : decode c.code pc = .ok (.bastore, 1)) (hp : pc + 1 = pc')
    (k : ∀ h', Wr h h' a i (.int x') → Arv Z h' a kA .byte z vs' dv → Go W EL Z a0 own p l e R s m args below meth c F h' cells slots (mkF m pc' ls st)) : Go W EL Z a0 own p l e R s m args below meth c F h cells slots (mkF m pc ls (.int x :: .int j :: .ref a :: st)) := by
  subst hp hx' hvs hji hE
  intro T P
  obtain ⟨vm0, k0, locs, hWf, X, eT, hx, hZ, hown, hS, hk, hEL, hC, hN, hO⟩ := P
  obtain ⟨cl, Ar, q1, S1, N1, H1, G1⟩ := A
  obtain ⟨T', h', X', e', W', st'⟩ := stB X hx hZ eT Ar (j := j) (inb_of S1 ⟨hj0, hjz⟩) (g := mkF m pc ls (.int x :: .int j :: .ref a :: st)) rfl rfl hd
  obtain ⟨t, o, h1, h2⟩ := k h' W' (Arv.set Ar q1 S1 N1 H1 G1 (fits_nar_byte _) W' _ rfl hi) T' ⟨vm0, k0, _, hWf, X', e', hx, hZ, hown, hS, by rw [W'.size]; exact hk, hEL, hC.trans (CHr.wr W' safe_nil hC.1), Fr.snoc X' hN ha, hO.wr W' ha⟩
  exact ⟨t, o, st' _ h1, h2⟩
theorem go_caload {a : Addr} {kA : ClassId} {z j : Int32} {vs : List Value} {dv v : Value} {i : Nat} (A : Arv Z h a kA .char z vs dv) (hj0 : ¬ j < 0) (hjz : j < z) (hji : j.toNatClampNeg = i) (hv : vs.getD i dv = v) (hd : decode c.code pc = .ok (.caload, 1)) (hp : pc + 1 = pc')
    (k : Go W EL Z a0 own p l e R s m args below meth c F h cells slots (mkF m pc' ls (v :: st))) : Go W EL Z a0 own p l e R s m args below meth c F h cells slots (mkF m pc ls (.int j :: .ref a :: st)) := by
  subst hp hv hji
  intro T P
  obtain ⟨t, o, h1, h2⟩ := k T P
  obtain ⟨vm0, k0, locs, hWf, X, eT, hx, hZ, hown, hS, hk, hEL, hC, hN, hO⟩ := P
  obtain ⟨cl, Ar, q1, S1, N1, H1, G1⟩ := A
  have hin := inb_of S1 ⟨hj0, hjz⟩
  exact ⟨t, o, X.caload hx (by rw [eT]; exact Ar.1) (State.isArrayOf_alike hZ.alike Ar.2.1) Ar.2.2 hin (H1.at hin rfl) (g := mkF m pc ls (.int j :: .ref a :: st)) rfl rfl hd _ h1, h2⟩
theorem go_baload {a : Addr} {kA : ClassId} {z j : Int32} {vs : List Value} {dv v : Value} {i : Nat} (A : Arv Z h a kA .byte z vs dv) (hj0 : ¬ j < 0) (hjz : j < z) (hji : j.toNatClampNeg = i) (hv : vs.getD i dv = v) (hd : decode c.code pc = .ok (.baload, 1)) (hp : pc + 1 = pc')
    (k : Go W EL Z a0 own p l e R s m args below meth c F h cells slots (mkF m pc' ls (v :: st))) : Go W EL Z a0 own p l e R s m args below meth c F h cells slots (mkF m pc ls (.int j :: .ref a :: st)) := by
  subst hp hv hji
  intro T P
  obtain ⟨t, o, h1, h2⟩ := k T P
  obtain ⟨vm0, k0, locs, hWf, X, eT, hx, hZ, hown, hS, hk, hEL, hC, hN, hO⟩ := P
  obtain ⟨cl, Ar, q1, S1, N1, H1, G1⟩ := A
  have hin := inb_of S1 ⟨hj0, hjz⟩
  exact ⟨t, o, X.baloadBytes hx (by rw [eT]; exact Ar.1) (State.isArrayOf_alike hZ.alike Ar.2.1) Ar.2.2 hin (H1.at hin rfl) (g := mkF m pc ls (.int j :: .ref a :: st)) rfl rfl hd _ h1, h2⟩
theorem go_aaload {a : Addr} {kA : ClassId} {z j : Int32} {vs : List Value} {dv v : Value} {i : Nat} {ty : FieldType} (A : Arv Z h a kA ty z vs dv) (hty : ty.isReference = true) (hj0 : ¬ j < 0) (hjz : j < z) (hji : j.toNatClampNeg = i) (hv : vs.getD i dv = v) (hd : decode c.code pc = .ok (.aaload, 1)) (hp : pc + 1 = pc')
    (k : Go W EL Z a0 own p l e R s m args below meth c F h cells slots (mkF m pc' ls (v :: st))) : Go W EL Z a0 own p l e R s m args below meth c F h cells slots (mkF m pc ls (.int j :: .ref a :: st)) := by
  subst hp hv hji
  intro T P
  obtain ⟨t, o, h1, h2⟩ := k T P
  obtain ⟨vm0, k0, locs, hWf, X, eT, hx, hZ, hown, hS, hk, hEL, hC, hN, hO⟩ := P
  obtain ⟨cl, Ar, q1, S1, N1, H1, G1⟩ := A
  have hin := inb_of S1 ⟨hj0, hjz⟩
  exact ⟨t, o, X.aaload hx (by rw [eT]; exact Ar.1) (State.isArrayOf_alike hZ.alike Ar.2.1) hty Ar.2.2 hin (H1.at hin rfl) (g := mkF m pc ls (.int j :: .ref a :: st)) rfl rfl hd _ h1, h2⟩
theorem go_arraylength {a : Addr} {kA : ClassId} {z : Int32} {vs : List Value} {dv : Value} {ty : FieldType} (A : Arv Z h a kA ty z vs dv) (hd : decode c.code pc = .ok (.arraylength, 1)) (hp : pc + 1 = pc')
    (k : Go W EL Z a0 own p l e R s m args below meth c F h cells slots (mkF m pc' ls (.int z :: st))) : Go W EL Z a0 own p l e R s m args below meth c F h cells slots (mkF m pc ls (.ref a :: st)) := by
  subst hp
  intro T P
  obtain ⟨t, o, h1, h2⟩ := k T P
  obtain ⟨vm0, k0, locs, hWf, X, eT, hx, hZ, hown, hS, hk, hEL, hC, hN, hO⟩ := P
  obtain ⟨cl, Ar, q1, S1, N1, H1, G1⟩ := A
  refine ⟨t, o, X.arraylength hx (by rw [eT]; exact Ar.1) (State.isArrayOf_alike hZ.alike Ar.2.1) (g := mkF m pc ls (.ref a :: st)) rfl rfl hd _ ?_, h2⟩
  rw [len_of S1 N1]
  exact h1
theorem go_cast {a : Addr} {K : String} {index : Nat} (w : (Jvm.Cond.classLink own index K).before a0 Z = true) (I : Ins Z h a K true) (hd : decode c.code pc = .ok (.checkcast index, 3)) (hp : pc + 3 = pc') (k : Go W EL Z a0 own p l e R s m args below meth c F h cells slots (mkF m pc' ls (.ref a :: st))) : Go W EL Z a0 own p l e R s m args below meth c F h cells slots (mkF m pc ls (.ref a :: st)) := by
  subst hp
  intro T P
  obtain ⟨vm0, k0, locs, hWf, X, eT, hx, hZ, hown, hS, hk, hEL, hC, hN, hO⟩ := P
  obtain ⟨T', X', e', st'⟩ := castY X hx hZ hown w eT I (g := mkF m pc ls (.ref a :: st)) rfl rfl hd
  obtain ⟨t, o, h1, h2⟩ := k T' ⟨vm0, k0, locs, hWf, X', e', hx, hZ, hown, hS, hk, hEL, hC, hN, hO⟩
  exact ⟨t, o, st' _ h1, h2⟩
theorem go_instY {a : Addr} {K : String} {index : Nat} (w : (Jvm.Cond.classLink own index K).before a0 Z = true) (I : Ins Z h a K true) (hd : decode c.code pc = .ok (.instanceof index, 3)) (hp : pc + 3 = pc') (k : Go W EL Z a0 own p l e R s m args below meth c F h cells slots (mkF m pc' ls (.int 1 :: st))) : Go W EL Z a0 own p l e R s m args below meth c F h cells slots (mkF m pc ls (.ref a :: st)) := by
  subst hp
  intro T P
  obtain ⟨vm0, k0, locs, hWf, X, eT, hx, hZ, hown, hS, hk, hEL, hC, hN, hO⟩ := P
  obtain ⟨T', X', e', st'⟩ := instY X hx hZ hown w eT I (g := mkF m pc ls (.ref a :: st)) rfl rfl hd
  obtain ⟨t, o, h1, h2⟩ := k T' ⟨vm0, k0, locs, hWf, X', e', hx, hZ, hown, hS, hk, hEL, hC, hN, hO⟩
  exact ⟨t, o, st' _ h1, h2⟩
theorem go_instNo {a : Addr} {K C : String} {index : Nat} (w : (Jvm.Cond.classLink own index K).before a0 Z = true) (E : Exa Z h a C) (N0 : ∃ c t, Z.vm.findClass C = some c ∧ Z.vm.findClass K = some t ∧ Z.vm.assignable c t = false) (hd : decode c.code pc = .ok (.instanceof index, 3)) (hp : pc + 3 = pc') (k : Go W EL Z a0 own p l e R s m args below meth c F h cells slots (mkF m pc' ls (.int 0 :: st))) : Go W EL Z a0 own p l e R s m args below meth c F h cells slots (mkF m pc ls (.ref a :: st)) := by
  subst hp
  intro T P
  obtain ⟨vm0, k0, locs, hWf, X, eT, hx, hZ, hown, hS, hk, hEL, hC, hN, hO⟩ := P
  obtain ⟨T', X', e', st'⟩ := instNo X hx hZ hown w eT E N0 (g := mkF m pc ls (.ref a :: st)) rfl rfl hd
  obtain ⟨t, o, h1, h2⟩ := k T' ⟨vm0, k0, locs, hWf, X', e', hx, hZ, hown, hS, hk, hEL, hC, hN, hO⟩
  exact ⟨t, o, st' _ h1, h2⟩
theorem go_instNull {index : Nat} (hd : decode c.code pc = .ok (.instanceof index, 3)) (hp : pc + 3 = pc') (k : Go W EL Z a0 own p l e R s m args below meth c F h cells slots (mkF m pc' ls (.int 0 :: st))) : Go W EL Z a0 own p l e R s m args below meth c F h cells slots (mkF m pc ls (.null :: st)) := by
  subst hp
  intro T P
  obtain ⟨t, o, h1, h2⟩ := k T P
  obtain ⟨vm0, k0, locs, hWf, X, eT, hx, hZ, hown, hS, hk, hEL, hC, hN, hO⟩ := P
  exact ⟨t, o, X.instanceofNull hx (g := mkF m pc ls (.null :: st)) rfl rfl hd _ h1, h2⟩
theorem go_ldcI {v : Int32} {index : Nat} (w : (Jvm.Cond.constant own index v).before a0 Z = true) (hd : decode c.code pc = .ok (.ldc index, 2)) (hp : pc + 2 = pc') (k : Go W EL Z a0 own p l e R s m args below meth c F h cells slots (mkF m pc' ls (.int v :: st))) : Go W EL Z a0 own p l e R s m args below meth c F h cells slots (mkF m pc ls st) := by
  subst hp
  intro T P
  obtain ⟨t, o, h1, h2⟩ := k T P
  obtain ⟨vm0, k0, locs, hWf, X, eT, hx, hZ, hown, hS, hk, hEL, hC, hN, hO⟩ := P
  exact ⟨t, o, X.ldcInt hx hown (mvT hZ w) (g := mkF m pc ls st) rfl hd _ h1, h2⟩
theorem go_ldcJ {v : Int64} {index : Nat} (w : (Jvm.Cond.constantLong own index v).before a0 Z = true) (hd : decode c.code pc = .ok (.ldc2_w index, 3)) (hp : pc + 3 = pc') (k : Go W EL Z a0 own p l e R s m args below meth c F h cells slots (mkF m pc' ls (.long v :: st))) : Go W EL Z a0 own p l e R s m args below meth c F h cells slots (mkF m pc ls st) := by
  subst hp
  intro T P
  obtain ⟨t, o, h1, h2⟩ := k T P
  obtain ⟨vm0, k0, locs, hWf, X, eT, hx, hZ, hown, hS, hk, hEL, hC, hN, hO⟩ := P
  exact ⟨t, o, X.ldc2Long hx hown (mvT hZ w) (g := mkF m pc ls st) rfl hd _ h1, h2⟩
theorem go_ldcS {text : String} {index n : Nat} (hWt : W = true) (w : (Jvm.Cond.stringLink own index text).before a0 Z = true) (wS : ∀ a ∈ Bundle.stringAtoms, a.before a0 Z = true) (hn : 4 * text.toList.length ≤ n) (hbig : n ≤ 536870912) (hd : decode c.code pc = .ok (.ldc index, 2)) (hp : pc + 2 = pc') (hcl : cells + 2 = cells') (hsl : slots + (n + 4) = slots') (hc : cells' ≤ R.cells) (hl : slots' ≤ R.slots)
    (k : ∀ (h' : Heap) (a : Addr), Ext h h' → Go W EL Z a0 own p l e R s m args below meth c F h' cells' slots' (mkF m pc' ls (.ref a :: st))) : Go W EL Z a0 own p l e R s m args below meth c F h cells slots (mkF m pc ls st) := by
  subst hp hcl hsl hWt
  intro T P
  obtain ⟨vm0, k0, locs, hWf, X, eT, hx, hZ, hown, hS, hk, hEL, hC, hN, hO⟩ := P
  obtain ⟨a, T', h', k1, X', e', E', hS', hk', hZ', hown', hC', -, st'⟩ := ldcOH X hx hZ hown w wS eT hS hk hEL hC.1 (g := mkF m pc ls st) rfl hd hn hbig hc hl
  obtain ⟨t, o, h1, h2⟩ := k h' a E' T' ⟨T'.vm, k1, _, (fun q => nomatch q), X', e', hx, hZ', hown', hS', hk', hEL, hC.trans hC', hN, hO.ext E'⟩
  exact ⟨t, o, st' _ h1, h2⟩
theorem go_ldcH {text : String} {index n : Nat} {vs : List Value} {z : Int32} (hWt : W = true) (hmem : (own, index) ∈ EL) (w : (Jvm.Cond.stringLink own index text).before a0 Z = true) (wS : ∀ a ∈ Bundle.stringAtoms, a.before a0 Z = true) (ht : (∀ c ∈ text.toList, c.toNat < 256) ∧ text.toList.map (fun c => Value.int (Jvm.Lit.byteI c.toNat.toUInt16)) = vs) (hz : ¬ z < 0) (hlz : z.toNatClampNeg = vs.length) (hn : 4 * text.toList.length ≤ n) (hbig : n ≤ 536870912) (hd : decode c.code pc = .ok (.ldc index, 2)) (hp : pc + 2 = pc') (hcl : cells + 2 = cells') (hsl : slots + (n + 4) = slots') (hc : cells' ≤ R.cells) (hl : slots' ≤ R.slots)
    (k : ∀ (h' : Heap) (a b : Addr) (kb : ClassId), Ext h h' → Exa Z h' a "java/lang/String" → Fld Z h' a "java/lang/String" "coder" "B" (.int 0) → Fld Z h' a "java/lang/String" "value" "[B" (.ref b) → Arv Z h' b kb .byte z vs (.int 0) → Go W EL Z a0 own p l e R s m args below meth c F h' cells' slots' (mkF m pc' ls (.ref a :: st))) : Go W EL Z a0 own p l e R s m args below meth c F h cells slots (mkF m pc ls st) := by
  subst hp hcl hsl hWt
  intro T P
  obtain ⟨vm0, k0, locs, hWf, X, eT, hx, hZ, hown, hS, hk, hEL, hC, hN, hO⟩ := P
  obtain ⟨a, T', h', k1, b, kb, X', e', E', hS', hk', hZ', hown', q1, q2, q3, q4, -, -, hC', -, -, st'⟩ := ldcCH X hx hZ hown w wS eT hS hk hEL hmem hC.1 ht hz hlz (g := mkF m pc ls st) rfl hd hn hbig hc hl
  obtain ⟨t, o, h1, h2⟩ := k h' a b kb E' q1 q2 q3 q4 T' ⟨T'.vm, k1, _, (fun q => nomatch q), X', e', hx, hZ', hown', hS', hk', hEL, hC.trans hC', hN, hO.ext E'⟩
  exact ⟨t, o, st' _ h1, h2⟩
theorem go_initO {a : Addr} {idx Wd : Nat} (w1 : (Jvm.Cond.methodLink own idx Lib.objectInit).before a0 Z = true) (w2 : (Jvm.Cond.instanceMethod Lib.objectInit).before a0 Z = true) (w3 : (Jvm.Cond.code Lib.objectInit ⟨#[0xb1]⟩ 1 none).before a0 Z = true) (hsize : ls.size = c.maxLocals) (hW : 2 * 0 + (st.map fun v => v.category).sum ≤ Wd) (hf : 1 ≤ R.frames) (hl : Wd + 12 ≤ R.locals) (hd : decode c.code pc = .ok (.invokespecial idx, 3)) (hp : pc + 3 = pc') (k : Go W EL Z a0 own p l e R s m args below meth c F h cells slots (mkF m pc' ls st)) : Go W EL Z a0 own p l e R s m args below meth c F h cells slots (mkF m pc ls (.ref a :: st)) := by
  subst hp
  intro T P
  obtain ⟨vm0, k0, locs, hWf, X, eT, hx, hZ, hown, hS, hk, hEL, hC, hN, hO⟩ := P
  obtain ⟨T', X', e', st'⟩ := initO X hx hZ hown w1 w2 w3 eT (g := mkF m pc ls (.ref a :: st)) rfl hsize rfl hd hf (W := Wd) hW hl
  obtain ⟨t, o, h1, h2⟩ := k T' ⟨vm0, k0, locs, hWf, X', e', hx, hZ, hown, hS, hk, hEL, hC, hN, hO⟩
  exact ⟨t, o, st' _ h1, h2⟩
-- calls: what a payment gives back as a point of the caller's walk
theorem pt_back {vm0 vm₁ : Vm} {k0 : Nat} {locs L : List Loc} {T : State} {B : Pt} {ws : List Addr} {dc ds : Nat} (hWf : W = false → vm0 = s.vm) (eT : T.heap = h) (hx : p.tables.exec = Jvm.exec) (hZ : Z.Warmed39 vm0) (hown : vm0.findClass own = some m.cls) (hS : s.Since vm0 k0) (hk : k0 ≤ h.size) (hEL : EW Z a0 EL) (hC : CHr Z EL s.vm s.heap vm0 h) (hN : Fr Z.heap.size locs) (hO : Old Z Z.heap.size h)
    (X : Stand p l e R (s.setVm vm0) m args below meth c B.U B.locs B.cells B.slots) (hL : Fr Z.heap.size L) (K : Keep h B.U.heap ws) (b1 : B.locs = locs ++ L) (b2 : B.cells = cells + dc) (b3 : B.slots = slots + ds) (hws : ∀ x ∈ ws, Z.heap.size ≤ x) (hsf : ∀ vm, Z.vm.Alike vm → ∀ x ∈ ws, Safe Z EL vm h x) (hcl : cells + dc = cells') (hsl : slots + ds = slots') :
    PT W EL Z a0 own p l e R s m args below meth c B.U B.U.heap cells' slots' := by
  subst hcl hsl
  rw [b1, b2, b3] at X
  exact ⟨vm0, k0, _, hWf, X, rfl, hx, hZ, hown, hS, Nat.le_trans hk K.1, hEL, hC.trans (CHr.keep K (hsf _ hZ.alike) hC.1), hN.app hL, hO.keep K hws⟩
theorem pt_backS {vm0 : Vm} {k0 : Nat} {locs L : List Loc} {B : Pt} {ws : List Addr} {dc ds : Nat} (hWt : W = true) (hx : p.tables.exec = Jvm.exec) (hZ : Z.Warmed39 vm0) (hown : vm0.findClass own = some m.cls) (hS : s.Since vm0 k0) (hk : k0 ≤ h.size) (hEL : EW Z a0 EL) (hC : CHr Z EL s.vm s.heap vm0 h) (hN : Fr Z.heap.size locs) (hO : Old Z Z.heap.size h)
    (X : Stand p l e R (s.setVm B.U.vm) m args below meth c B.U B.locs B.cells B.slots) (S2 : (s.setVm vm0).Since B.U.vm B.U.heap.size) (hL : Fr Z.heap.size L) (K : Keep h B.U.heap ws) (b1 : B.locs = locs ++ L) (b2 : B.cells = cells + dc) (b3 : B.slots = slots + ds) (b4 : CHr Z EL vm0 h B.U.vm B.U.heap) (hws : ∀ x ∈ ws, Z.heap.size ≤ x) (hcl : cells + dc = cells') (hsl : slots + ds = slots') :
    PT W EL Z a0 own p l e R s m args below meth c B.U B.U.heap cells' slots' := by
  subst hcl hsl hWt
  rw [b1, b2, b3] at X
  have hZ' : Z.Warmed39 B.U.vm := State.Warmed39.trans (t := s.setVm vm0) (s := Z) hZ S2.1
  have hown' : B.U.vm.findClass own = some m.cls := by
    rw [S2.1.alike.findClass]
    exact hown
  exact ⟨B.U.vm, B.U.heap.size, _, (fun q => nomatch q), X, rfl, hx, hZ', hown', hS.trans S2 (Nat.le_trans hk K.1), Nat.le_refl _, hEL, hC.trans b4, hN.app hL, hO.keep K hws⟩
theorem callS0 {index Wd dc ds : Nat} {y : MethodName} {bytes : ByteArray} {maxL : Nat} {ret : Option FieldType} {argsL rest : List Value} {ws : List Addr} {Q : Option Value → Heap → Prop} {ps : List FieldType} {r : Option FieldType}
    (hK : Pay l R p e below Z y Wd argsL.toArray h dc ds ws Q) (w1 : (Jvm.Cond.methodLink own index y).before a0 Z = true) (w2 : (Jvm.Cond.static y).before a0 Z = true) (w3 : (Jvm.Cond.initialized y.cls).before a0 Z = true) (w4 : (Jvm.Cond.code y bytes maxL ret).before a0 Z = true) (hy : y.cls ≠ "java/lang/invoke/MethodHandle" ∧ y.cls ≠ "java/lang/invoke/VarHandle")
    (hpd : parseMethodDescriptor y.desc = some ⟨ps, r⟩) (hln : argsL.length = ps.length) (hst : st = argsL.reverse ++ rest) (hsize : ls.size = c.maxLocals) (hW : 2 * 0 + (rest.map fun v => v.category).sum ≤ Wd) (hcl : cells + dc = cells') (hsl : slots + ds = slots') (hc : cells' ≤ R.cells) (hs : slots' ≤ R.slots) (hws : ∀ x ∈ ws, Z.heap.size ≤ x) (hsf : ∀ vm, Z.vm.Alike vm → ∀ x ∈ ws, Safe Z EL vm h x)
    (hd : decode c.code pc = .ok (.invokestatic index, 3)) (k : ∀ (v : Option Value) (h' : Heap), Q v h' → Keep h h' ws → Go W EL Z a0 own p l e R s m args below meth c F h' cells' slots' (mkF m (pc + 3) ls (v.toList ++ rest))) : Go W EL Z a0 own p l e R s m args below meth c F h cells slots (mkF m pc ls st) := by
  intro T P
  obtain ⟨vm0, k0, locs, hWf, X, eT, hx, hZ, hown, hS, hk, hEL, hC, hN, hO⟩ := P
  obtain ⟨v, vm₁, B, -, X', ⟨L, ⟨q1, q2, q3⟩, b1, b2, b3⟩, st'⟩ := Jvm.LawKit.callS X hx hown (mvT hZ w1) (mvT hZ w2) (mvT hZ w3) (mvT hZ w4) hy (hK _ _ hZ) (g := mkF m pc ls st) rfl hsize (lenOf hpd hln) hst hW hd (fun _ _ => ⟨rfl, eT, by rw [hcl]; exact hc, by rw [hsl]; exact hs⟩)
  obtain ⟨t, o, h1, h2⟩ := k v _ q1 q3 B.U (pt_back (vm₁ := vm₁) hWf eT hx hZ hown hS hk hEL hC hN hO X' q2 q3 b1 b2 b3 hws hsf hcl hsl)
  exact ⟨t, o, st' _ h1, h2⟩
theorem callSW0 {index Wd dc ds : Nat} {y : MethodName} {bytes : ByteArray} {maxL : Nat} {ret : Option FieldType} {argsL rest : List Value} {ws : List Addr} {Q : Option Value → Heap → Prop} {ps : List FieldType} {r : Option FieldType} (hWt : W = true)
    (hK : PayW EL l R p e below Z y Wd argsL.toArray h dc ds ws Q) (w1 : (Jvm.Cond.methodLink own index y).before a0 Z = true) (w2 : (Jvm.Cond.static y).before a0 Z = true) (w3 : (Jvm.Cond.initialized y.cls).before a0 Z = true) (w4 : (Jvm.Cond.code y bytes maxL ret).before a0 Z = true) (hy : y.cls ≠ "java/lang/invoke/MethodHandle" ∧ y.cls ≠ "java/lang/invoke/VarHandle")
    (hpd : parseMethodDescriptor y.desc = some ⟨ps, r⟩) (hln : argsL.length = ps.length) (hst : st = argsL.reverse ++ rest) (hsize : ls.size = c.maxLocals) (hW : 2 * 0 + (rest.map fun v => v.category).sum ≤ Wd) (hcl : cells + dc = cells') (hsl : slots + ds = slots') (hc : cells' ≤ R.cells) (hs : slots' ≤ R.slots) (hws : ∀ x ∈ ws, Z.heap.size ≤ x)
    (hd : decode c.code pc = .ok (.invokestatic index, 3)) (k : ∀ (v : Option Value) (h' : Heap), Q v h' → Keep h h' ws → Go W EL Z a0 own p l e R s m args below meth c F h' cells' slots' (mkF m (pc + 3) ls (v.toList ++ rest))) : Go W EL Z a0 own p l e R s m args below meth c F h cells slots (mkF m pc ls st) := by
  intro T P
  obtain ⟨vm0, k0, locs, hWf, X, eT, hx, hZ, hown, hS, hk, hEL, hC, hN, hO⟩ := P
  obtain ⟨v, vm₁, B, -, X', S2, -, ⟨L, ⟨q1, q2, q3⟩, b1, b2, b3, b4⟩, st'⟩ := callSS X hx hown (mvT hZ w1) (mvT hZ w2) (mvT hZ w3) (mvT hZ w4) hy (hK s vm0 _ hZ hC.1) (g := mkF m pc ls st) rfl hsize (lenOf hpd hln) hst hW hd (fun _ _ => ⟨rfl, eT, by rw [hcl]; exact hc, by rw [hsl]; exact hs⟩)
  obtain ⟨t, o, h1, h2⟩ := k v _ q1 q3 B.U (pt_backS hWt hx hZ hown hS hk hEL hC hN hO X' S2 q2 q3 b1 b2 b3 b4 hws hcl hsl)
  exact ⟨t, o, st'.trans h1, h2⟩
theorem callI0 {index Wd dc ds : Nat} {y : MethodName} {bytes : ByteArray} {maxL : Nat} {a : Addr} {argsL rest : List Value} {ws : List Addr} {Q : Option Value → Heap → Prop} {ps : List FieldType} {r : Option FieldType}
    (hK : Pay l R p e below Z y Wd (.ref a :: argsL).toArray h dc ds ws Q) (hy1 : y.name = "<init>") (w1 : (Jvm.Cond.methodLink own index y).before a0 Z = true) (w2 : (Jvm.Cond.instanceMethod y).before a0 Z = true) (w4 : (Jvm.Cond.code y bytes maxL none).before a0 Z = true) (hy : y.cls ≠ "java/lang/invoke/MethodHandle" ∧ y.cls ≠ "java/lang/invoke/VarHandle")
    (hpd : parseMethodDescriptor y.desc = some ⟨ps, r⟩) (hln : argsL.length = ps.length) (hst : st = argsL.reverse ++ .ref a :: rest) (hsize : ls.size = c.maxLocals) (hW : 2 * 0 + (rest.map fun v => v.category).sum ≤ Wd) (hcl : cells + dc = cells') (hsl : slots + ds = slots') (hc : cells' ≤ R.cells) (hs : slots' ≤ R.slots) (hws : ∀ x ∈ ws, Z.heap.size ≤ x) (hsf : ∀ vm, Z.vm.Alike vm → ∀ x ∈ ws, Safe Z EL vm h x)
    (hd : decode c.code pc = .ok (.invokespecial index, 3)) (k : ∀ (v : Option Value) (h' : Heap), Q v h' → Keep h h' ws → Go W EL Z a0 own p l e R s m args below meth c F h' cells' slots' (mkF m (pc + 3) ls (v.toList ++ rest))) : Go W EL Z a0 own p l e R s m args below meth c F h cells slots (mkF m pc ls st) := by
  intro T P
  obtain ⟨vm0, k0, locs, hWf, X, eT, hx, hZ, hown, hS, hk, hEL, hC, hN, hO⟩ := P
  obtain ⟨v, vm₁, B, -, X', ⟨L, ⟨q1, q2, q3⟩, b1, b2, b3⟩, st'⟩ := X.specialBack hx hy1 hown (mvT hZ w1) (mvT hZ w2) (mvT hZ w4) hy (hK _ _ hZ) (g := mkF m pc ls st) rfl hsize (Steps.refl _) (lenOf hpd hln) hst hW hd (fun _ _ => ⟨rfl, eT, by rw [hcl]; exact hc, by rw [hsl]; exact hs⟩)
  obtain ⟨t, o, h1, h2⟩ := k v _ q1 q3 B.U (pt_back (vm₁ := vm₁) hWf eT hx hZ hown hS hk hEL hC hN hO X' q2 q3 b1 b2 b3 hws hsf hcl hsl)
  exact ⟨t, o, st'.trans h1, h2⟩
theorem callIW0 {index Wd dc ds : Nat} {y : MethodName} {bytes : ByteArray} {maxL : Nat} {a : Addr} {argsL rest : List Value} {ws : List Addr} {Q : Option Value → Heap → Prop} {ps : List FieldType} {r : Option FieldType} (hWt : W = true)
    (hK : PayW EL l R p e below Z y Wd (.ref a :: argsL).toArray h dc ds ws Q) (hy1 : y.name = "<init>") (w1 : (Jvm.Cond.methodLink own index y).before a0 Z = true) (w2 : (Jvm.Cond.instanceMethod y).before a0 Z = true) (w4 : (Jvm.Cond.code y bytes maxL none).before a0 Z = true) (hy : y.cls ≠ "java/lang/invoke/MethodHandle" ∧ y.cls ≠ "java/lang/invoke/VarHandle")
    (hpd : parseMethodDescriptor y.desc = some ⟨ps, r⟩) (hln : argsL.length = ps.length) (hst : st = argsL.reverse ++ .ref a :: rest) (hsize : ls.size = c.maxLocals) (hW : 2 * 0 + (rest.map fun v => v.category).sum ≤ Wd) (hcl : cells + dc = cells') (hsl : slots + ds = slots') (hc : cells' ≤ R.cells) (hs : slots' ≤ R.slots) (hws : ∀ x ∈ ws, Z.heap.size ≤ x)
    (hd : decode c.code pc = .ok (.invokespecial index, 3)) (k : ∀ (v : Option Value) (h' : Heap), Q v h' → Keep h h' ws → Go W EL Z a0 own p l e R s m args below meth c F h' cells' slots' (mkF m (pc + 3) ls (v.toList ++ rest))) : Go W EL Z a0 own p l e R s m args below meth c F h cells slots (mkF m pc ls st) := by
  intro T P
  obtain ⟨vm0, k0, locs, hWf, X, eT, hx, hZ, hown, hS, hk, hEL, hC, hN, hO⟩ := P
  obtain ⟨v, vm₁, B, -, X', S2, -, ⟨L, ⟨q1, q2, q3⟩, b1, b2, b3, b4⟩, st'⟩ := X.specialBackS hx hy1 hown (mvT hZ w1) (mvT hZ w2) (mvT hZ w4) hy (hK s vm0 _ hZ hC.1) (g := mkF m pc ls st) rfl hsize (Steps.refl _) (lenOf hpd hln) hst hW hd (fun _ _ => ⟨rfl, eT, by rw [hcl]; exact hc, by rw [hsl]; exact hs⟩)
  obtain ⟨t, o, h1, h2⟩ := k v _ q1 q3 B.U (pt_backS hWt hx hZ hown hS hk hEL hC hN hO X' S2 q2 q3 b1 b2 b3 b4 hws hcl hsl)
  exact ⟨t, o, st'.trans h1, h2⟩
theorem callV0 {index Wd dc ds : Nat} {y z : MethodName} {C C' : String} {a : Addr} {argsL rest : List Value} {ws : List Addr} {Q : Option Value → Heap → Prop} {ps : List FieldType} {r : Option FieldType}
    (hK : Pay l R p e below Z z Wd (.ref a :: argsL).toArray h dc ds ws Q) (E : Exa Z h a C) (w1 : (Jvm.Cond.methodLink own index y).before a0 Z = true) (w2 : (Jvm.Cond.declares y).before a0 Z = true) (w3 : (Jvm.Cond.selects C' y y).before a0 Z = true) (w5 : (Jvm.Cond.selects C y z).before a0 Z = true) (w4 : (Jvm.Cond.instanceMethod z).before a0 Z = true) (hy : y.cls ≠ "java/lang/invoke/MethodHandle" ∧ y.cls ≠ "java/lang/invoke/VarHandle")
    (hpd : parseMethodDescriptor y.desc = some ⟨ps, r⟩) (hln : argsL.length = ps.length) (hst : st = argsL.reverse ++ .ref a :: rest) (hsize : ls.size = c.maxLocals) (hW : 2 * 0 + (rest.map fun v => v.category).sum ≤ Wd) (hcl : cells + dc = cells') (hsl : slots + ds = slots') (hc : cells' ≤ R.cells) (hs : slots' ≤ R.slots) (hws : ∀ x ∈ ws, Z.heap.size ≤ x) (hsf : ∀ vm, Z.vm.Alike vm → ∀ x ∈ ws, Safe Z EL vm h x)
    (hd : decode c.code pc = .ok (.invokevirtual index, 3)) (k : ∀ (v : Option Value) (h' : Heap), Q v h' → Keep h h' ws → Go W EL Z a0 own p l e R s m args below meth c F h' cells' slots' (mkF m (pc + 3) ls (v.toList ++ rest))) : Go W EL Z a0 own p l e R s m args below meth c F h cells slots (mkF m pc ls st) := by
  intro T P
  obtain ⟨vm0, k0, locs, hWf, X, eT, hx, hZ, hown, hS, hk, hEL, hC, hN, hO⟩ := P
  obtain ⟨cB, kB, i1, i2, i3⟩ := isOf (T := T) (s := s.setVm vm0) hZ eT E
  obtain ⟨v, vm₁, B, -, X', ⟨L, ⟨q1, q2, q3⟩, b1, b2, b3⟩, st'⟩ := X.virtualBack hx (y := y) (z := z) hown (mvT hZ w1) (mvT hZ w2) (notFace_of_selects (args := #[]) (mvT hZ w3)) (mvT hZ w5) (mvT hZ w4) hy (hK _ _ hZ) i1 i3 (g := mkF m pc ls st) rfl hsize (Steps.refl _) (lenOf hpd hln) hst hW hd (fun _ _ => ⟨rfl, eT, by rw [hcl]; exact hc, by rw [hsl]; exact hs⟩)
  obtain ⟨t, o, h1, h2⟩ := k v _ q1 q3 B.U (pt_back (vm₁ := vm₁) hWf eT hx hZ hown hS hk hEL hC hN hO X' q2 q3 b1 b2 b3 hws hsf hcl hsl)
  exact ⟨t, o, st'.trans h1, h2⟩
theorem callVW0 {index Wd dc ds : Nat} {y z : MethodName} {C C' : String} {a : Addr} {argsL rest : List Value} {ws : List Addr} {Q : Option Value → Heap → Prop} {ps : List FieldType} {r : Option FieldType} (hWt : W = true)
    (hK : PayW EL l R p e below Z z Wd (.ref a :: argsL).toArray h dc ds ws Q) (E : Exa Z h a C) (w1 : (Jvm.Cond.methodLink own index y).before a0 Z = true) (w2 : (Jvm.Cond.declares y).before a0 Z = true) (w3 : (Jvm.Cond.selects C' y y).before a0 Z = true) (w5 : (Jvm.Cond.selects C y z).before a0 Z = true) (w4 : (Jvm.Cond.instanceMethod z).before a0 Z = true) (hy : y.cls ≠ "java/lang/invoke/MethodHandle" ∧ y.cls ≠ "java/lang/invoke/VarHandle")
    (hpd : parseMethodDescriptor y.desc = some ⟨ps, r⟩) (hln : argsL.length = ps.length) (hst : st = argsL.reverse ++ .ref a :: rest) (hsize : ls.size = c.maxLocals) (hW : 2 * 0 + (rest.map fun v => v.category).sum ≤ Wd) (hcl : cells + dc = cells') (hsl : slots + ds = slots') (hc : cells' ≤ R.cells) (hs : slots' ≤ R.slots) (hws : ∀ x ∈ ws, Z.heap.size ≤ x)
    (hd : decode c.code pc = .ok (.invokevirtual index, 3)) (k : ∀ (v : Option Value) (h' : Heap), Q v h' → Keep h h' ws → Go W EL Z a0 own p l e R s m args below meth c F h' cells' slots' (mkF m (pc + 3) ls (v.toList ++ rest))) : Go W EL Z a0 own p l e R s m args below meth c F h cells slots (mkF m pc ls st) := by
  intro T P
  obtain ⟨vm0, k0, locs, hWf, X, eT, hx, hZ, hown, hS, hk, hEL, hC, hN, hO⟩ := P
  obtain ⟨cB, kB, i1, i2, i3⟩ := isOf (T := T) (s := s.setVm vm0) hZ eT E
  obtain ⟨v, vm₁, B, -, X', S2, -, ⟨L, ⟨q1, q2, q3⟩, b1, b2, b3, b4⟩, st'⟩ := X.virtualBackS hx (y := y) (z := z) hown (mvT hZ w1) (mvT hZ w2) (notFace_of_selects (args := #[]) (mvT hZ w3)) (mvT hZ w5) (mvT hZ w4) hy (hK s vm0 _ hZ hC.1) i1 i3 (g := mkF m pc ls st) rfl hsize (Steps.refl _) (lenOf hpd hln) hst hW hd (fun _ _ => ⟨rfl, eT, by rw [hcl]; exact hc, by rw [hsl]; exact hs⟩)
  obtain ⟨t, o, h1, h2⟩ := k v _ q1 q3 B.U (pt_backS hWt hx hZ hown hS hk hEL hC hN hO X' S2 q2 q3 b1 b2 b3 b4 hws hcl hsl)
  exact ⟨t, o, st'.trans h1, h2⟩
theorem k_v {ws : List Addr} {QV : Value → Heap → Prop} {rest : List Value} (hp : pc + 3 = pc') (k : ∀ (x : Value) (h' : Heap), QV x h' → Keep h h' ws → Go W EL Z a0 own p l e R s m args below meth c F h' cells' slots' (mkF m pc' ls (x :: rest))) : ∀ (v : Option Value) (h' : Heap), rvl QV v h' → Keep h h' ws → Go W EL Z a0 own p l e R s m args below meth c F h' cells' slots' (mkF m (pc + 3) ls (v.toList ++ rest)) := by
  subst hp
  rintro _ h' ⟨x, rfl, q⟩ K
  exact k x h' q K
theorem k_n {ws : List Addr} {QN : Heap → Prop} {rest : List Value} (hp : pc + 3 = pc') (k : ∀ (h' : Heap), QN h' → Keep h h' ws → Go W EL Z a0 own p l e R s m args below meth c F h' cells' slots' (mkF m pc' ls rest)) : ∀ (v : Option Value) (h' : Heap), rno QN v h' → Keep h h' ws → Go W EL Z a0 own p l e R s m args below meth c F h' cells' slots' (mkF m (pc + 3) ls (v.toList ++ rest)) := by
  subst hp
  rintro _ h' ⟨rfl, q⟩ K
  exact k h' q K
-- the end
theorem fin_of {vm0 : Vm} {k0 : Nat} {locs : List Loc} {T : State} {h0 : Heap} {ws : List Addr} {Q : Option Value → Heap → Prop} {dc ds : Nat} {v : Option Value} (hlk : meth.locks = false) (hWf : W = false → vm0 = s.vm) (X : Stand p l e R (s.setVm vm0) m args below meth c T locs cells slots) (eT : T.heap = h) (hZ : Z.Warmed39 vm0) (hS : s.Since vm0 k0) (hk : k0 ≤ h.size) (hEL : EW Z a0 EL) (hC : CHr Z EL s.vm s.heap vm0 h) (hN : Fr Z.heap.size locs) (hv : meth.sig.returnType = none → v = none) (hq : Q v h) (K : Keep h0 h ws) (hc : cells ≤ dc) (hs : slots ≤ ds) :
    ∃ fs, (∀ (f : JFrame) (acts : List Action), f.method = m → f.locked = none → f.entered = [] → (doReturn e (T.setTop f) acts v).1 = T.setFrames fs) ∧ (T.setFrames fs).status = .running ∧ Ended (T.setFrames fs) below (.returned v) ∧ Fend W EL Z s h0 ws Q dc ds (.returned v) (T.setFrames fs) := by
  cases W
  · obtain rfl := hWf rfl
    obtain ⟨fs, hr, hrun, hended, hW, hsame⟩ := X.leave (v := v) hv hlk
    exact ⟨fs, hr, hrun, hended, v, locs, rfl, ⟨by rw [show (T.setFrames fs).heap = h from eT]; exact hq, hN, by rw [show (T.setFrames fs).heap = h from eT]; exact K⟩, (fun q => nomatch q), fun _ => ⟨⟨v, rfl⟩, hW, hsame.mono hc hs⟩⟩
  · obtain ⟨fs, hr, hrun, hended, q1, q2, q3, q4⟩ := X.leaveW hS (by rw [eT]; exact hk) (v := v) hv hlk
    exact ⟨fs, hr, hrun, hended, v, locs, rfl, ⟨by rw [show (T.setFrames fs).heap = h from eT]; exact hq, hN, by rw [show (T.setFrames fs).heap = h from eT]; exact K⟩, fun _ => ⟨by rw [show (T.setFrames fs).heap = h from eT]; exact hC.trans (show CHr Z EL vm0 h T.vm h from CHv.at X hZ hEL hC.1), q1, q2, q3, q4.mono hc hs⟩, (fun q => nomatch q)⟩
theorem go_areturn {v : Value} {t : FieldType} {h0 : Heap} {ws : List Addr} {Q : Option Value → Heap → Prop} {dc ds : Nat} (hret : meth.sig.returnType = some t) (hlk : meth.locks = false) (ht : t.isReference = true) (hv : v.isRef = true) (hd : decode c.code pc = .ok (.areturn, 1)) (hc : cells ≤ dc) (hs : slots ≤ ds) (hq : Q (some v) h) (K : Keep h0 h ws) :
    Go W EL Z a0 own p l e R s m args below meth c (Fend W EL Z s h0 ws Q dc ds) h cells slots (mkF m pc ls [v]) := by
  intro T P
  obtain ⟨vm0, k0, locs, hWf, X, eT, hx, hZ, hown, hS, hk, hEL, hC, hN, hO⟩ := P
  obtain ⟨fs, hr, q1, q2, q3⟩ := fin_of hlk hWf X eT hZ hS hk hEL hC hN (v := some v) (fun q => by rw [hret] at q; cases q) hq K hc hs
  exact ⟨_, _, X.areturnOut hx hv hret ht hd hr, q1, q2, q3⟩
theorem go_return {h0 : Heap} {ws : List Addr} {Q : Option Value → Heap → Prop} {dc ds : Nat} (hret : meth.sig.returnType = none) (hlk : meth.locks = false) (hd : decode c.code pc = .ok (.return_, 1)) (hc : cells ≤ dc) (hs : slots ≤ ds) (hq : Q none h) (K : Keep h0 h ws) :
    Go W EL Z a0 own p l e R s m args below meth c (Fend W EL Z s h0 ws Q dc ds) h cells slots (mkF m pc ls []) := by
  intro T P
  obtain ⟨vm0, k0, locs, hWf, X, eT, hx, hZ, hown, hS, hk, hEL, hC, hN, hO⟩ := P
  obtain ⟨fs, hr, q1, q2, q3⟩ := fin_of hlk hWf X eT hZ hS hk hEL hC hN (v := none) (fun _ => rfl) hq K hc hs
  exact ⟨_, _, X.returnOut hx hret hd hr, q1, q2, q3⟩
theorem go_ireturn {x : Int32} {t : FieldType} {h0 : Heap} {ws : List Addr} {Q : Option Value → Heap → Prop} {dc ds : Nat} (hret : meth.sig.returnType = some t) (hlk : meth.locks = false) (hn : narrow t (.int x) = .int x) (hti : t = .int ∨ t = .boolean ∨ t = .byte ∨ t = .char ∨ t = .short) (hd : decode c.code pc = .ok (.ireturn, 1)) (hc : cells ≤ dc) (hs : slots ≤ ds) (hq : Q (some (.int x)) h) (K : Keep h0 h ws) :
    Go W EL Z a0 own p l e R s m args below meth c (Fend W EL Z s h0 ws Q dc ds) h cells slots (mkF m pc ls [.int x]) := by
  intro T P
  obtain ⟨vm0, k0, locs, hWf, X, eT, hx, hZ, hown, hS, hk, hEL, hC, hN, hO⟩ := P
  obtain ⟨fs, hr, q1, q2, q3⟩ := fin_of hlk hWf X eT hZ hS hk hEL hC hN (v := some (.int x)) (fun q => by rw [hret] at q; cases q) hq K hc hs
  exact ⟨_, _, X.ireturnOut hx hret hn hti hd hr, q1, q2, q3⟩
theorem go_lreturn {x : Int64} {h0 : Heap} {ws : List Addr} {Q : Option Value → Heap → Prop} {dc ds : Nat} (hret : meth.sig.returnType = some .long) (hlk : meth.locks = false) (hd : decode c.code pc = .ok (.lreturn, 1)) (hc : cells ≤ dc) (hs : slots ≤ ds) (hq : Q (some (.long x)) h) (K : Keep h0 h ws) :
    Go W EL Z a0 own p l e R s m args below meth c (Fend W EL Z s h0 ws Q dc ds) h cells slots (mkF m pc ls [.long x]) := by
  intro T P
  obtain ⟨vm0, k0, locs, hWf, X, eT, hx, hZ, hown, hS, hk, hEL, hC, hN, hO⟩ := P
  obtain ⟨fs, hr, q1, q2, q3⟩ := fin_of hlk hWf X eT hZ hS hk hEL hC hN (v := some (.long x)) (fun q => by rw [hret] at q; cases q) hq K hc hs
  exact ⟨_, _, X.lreturnOut hx hret hd hr, q1, q2, q3⟩
theorem nv_obj {v : Value} {C : String} (q : v.isRef = true) : narrow (.object C) v = v := by cases v <;> first | rfl | simp [Value.isRef] at q
theorem fv_obj {v : Value} {C : String} (q : v.isRef = true) : fits (.object C) v = true := by cases v <;> first | rfl | simp [Value.isRef] at q
theorem i2b_i2b (x : Int32) : (x.toInt8.toInt32).toInt8.toInt32 = x.toInt8.toInt32 := by simp
theorem go_cut {α : Type} {P : α → Prop} {gf : α → JFrame} {g0 : JFrame} (k : ∀ q, P q → Go W EL Z a0 own p l e R s m args below meth c F h cells slots (gf q)) (b : (∀ q, P q → Go W EL Z a0 own p l e R s m args below meth c F h cells slots (gf q)) → Go W EL Z a0 own p l e R s m args below meth c F h cells slots (g0)) : Go W EL Z a0 own p l e R s m args below meth c F h cells slots (g0) := b k
theorem go_getSN {v : Value} {O n d host : String} {index : Nat} (w : (Jvm.Cond.fieldLinkNest own index O n d host).before a0 Z = true) (F0 : Sta Z h O n d v) (hd : decode c.code pc = .ok (.getstatic index, 3)) (hp : pc + 3 = pc') (k : Go W EL Z a0 own p l e R s m args below meth c F h cells slots (mkF m pc' ls (v :: st))) : Go W EL Z a0 own p l e R s m args below meth c F h cells slots (mkF m pc ls st) := by
  subst hp
  intro T P
  obtain ⟨vm0, k0, locs, hWf, X, eT, hx, hZ, hown, hS, hk, hEL, hC, hN, hO⟩ := P
  obtain ⟨T', X', e', st'⟩ := getS2 X hx hZ hown (Or.inr w) Via.refl eT F0 (g := mkF m pc ls st) rfl hd
  obtain ⟨t, o, h1, h2⟩ := k T' ⟨vm0, k0, locs, hWf, X', e', hx, hZ, hown, hS, hk, hEL, hC, hN, hO⟩
  exact ⟨t, o, st' _ h1, h2⟩
theorem go_newR {C : String} {index : Nat} {n : Int32} {cap : Nat} {vs : List Value} (w1 : (Jvm.Cond.classLink own index C).before a0 Z = true) (w2 : (Jvm.Cond.arrayOver (.object C)).before a0 Z = true) (hd : decode c.code pc = .ok (.anewarray index, 3)) (hp : pc + 3 = pc') (hn : ¬ n < 0) (hcap : n.toNatClampNeg = cap) (hb : cap * 8 ≤ 536870912) (hvs : List.replicate cap Value.null = vs) (hcl : cells + 1 = cells') (hsl : slots + cap = slots') (hc : cells' ≤ R.cells) (hl : slots' ≤ R.slots)
    (k : ∀ (h' : Heap) (a : Addr) (kA : ClassId), h.size = a → Ext h h' → Arv Z h' a kA (.object C) n vs .null → Ovr Z kA C → Go W EL Z a0 own p l e R s m args below meth c F h' cells' slots' (mkF m pc' ls (.ref a :: st))) : Go W EL Z a0 own p l e R s m args below meth c F h cells slots (mkF m pc ls (.int n :: st)) := by
  subst hp hcl hsl hvs
  intro T P
  obtain ⟨vm0, k0, locs, hWf, X, eT, hx, hZ, hown, hS, hk, hEL, hC, hN, hO⟩ := P
  obtain ⟨T', h', kA, X', e', E', A', O', st'⟩ := newR X hx hZ hown w1 w2 eT (g := mkF m pc ls (.int n :: st)) rfl hd rfl hn (cap := cap) (Nat.le_of_eq hcap) hb hc hl
  have V : Arv Z h' h.size kA (.object C) n (List.replicate cap Value.null) .null := by
    have q : Arv Z h' h.size kA (.object C) n ([] ++ List.replicate cap Value.null) .null := (Arv.new A' hn).pad (pad_rep [] (defaultValue (.object C)) cap)
    simpa using q
  obtain ⟨t, o, h1, h2⟩ := k h' h.size kA rfl E' V O' T' ⟨vm0, k0, _, hWf, X', e', hx, hZ, hown, hS, Nat.le_trans hk E'.1, hEL, hC.trans (CHr.ext E' hC.1), hN, hO.ext E'⟩
  exact ⟨t, o, st' _ h1, h2⟩
theorem go_stR {a y : Addr} {kA : ClassId} {z j : Int32} {vs vs' : List Value} {i : Nat} {K C : String} (A : Arv Z h a kA (.object K) z vs .null) (O0 : Ovr Z kA C) (I : Ins Z h y C true) (ha : Z.heap.size ≤ a) (hj0 : ¬ j < 0) (hjz : j < z) (hji : j.toNatClampNeg = i) (hi : i < vs.length) (hvs : vs.set i (.ref y) = vs') (hd : decode c.code pc = .ok (.aastore, 1)) (hp : pc + 1 = pc')
    (k : ∀ h', Wr h h' a i (.ref y) → Arv Z h' a kA (.object K) z vs' .null → Go W EL Z a0 own p l e R s m args below meth c F h' cells slots (mkF m pc' ls st)) : Go W EL Z a0 own p l e R s m args below meth c F h cells slots (mkF m pc ls (.ref y :: .int j :: .ref a :: st)) := by
  subst hp hvs hji
  intro T P
  obtain ⟨vm0, k0, locs, hWf, X, eT, hx, hZ, hown, hS, hk, hEL, hC, hN, hO⟩ := P
  obtain ⟨cl, Ar, q1, S1, N1, H1, G1⟩ := A
  obtain ⟨T', h', X', e', W', st'⟩ := stR X hx hZ eT Ar (j := j) (inb_of S1 ⟨hj0, hjz⟩) rfl (Sto.ofV Ar q1 O0 I) (g := mkF m pc ls (.ref y :: .int j :: .ref a :: st)) rfl rfl hd
  have S0 : Safe Z EL vm0 h a := Safe.arr hZ.alike Ar (by simp)
  obtain ⟨t, o, h1, h2⟩ := k h' W' (Arv.set Ar q1 S1 N1 H1 G1 rfl W' _ rfl hi) T' ⟨vm0, k0, _, hWf, X', e', hx, hZ, hown, hS, by rw [W'.size]; exact hk, hEL, hC.trans (CHr.wr W' S0 hC.1), Fr.snoc X' hN ha, hO.wr W' ha⟩
  exact ⟨t, o, st' _ h1, h2⟩
end Own
abbrev EL1 : List (String × Nat) := []
def GH (Z : State) (a0 : Array Value) : Prop := (∀ d ∈ tables_1, d.before a0 Z = true) ∧ (∀ d ∈ jdkStatics_1, d.before a0 Z = true) ∧ EW Z a0 EL1 ∧ (narrow_1.value a0 Z none Z [] = some true) ∧ Fit Z
theorem wk {Z : State} {a0 : Array Value} (G : GH Z a0) (k : Nat) {d : Jvm.Cond} (q : tables_1[k]? = some d) : d.before a0 Z = true := G.1 _ (List.mem_of_getElem? q)
theorem jk {Z : State} {a0 : Array Value} (G : GH Z a0) (k : Nat) {d : Jvm.Cond} (q : jdkStatics_1[k]? = some d) : d.before a0 Z = true := G.2.1 _ (List.mem_of_getElem? q)
theorem ew1 {Z : State} {a0 : Array Value} (G : GH Z a0) : EW Z a0 EL1 := G.2.2.1
theorem wS {Z : State} {a0 : Array Value} (G : GH Z a0) : ∀ a ∈ Bundle.stringAtoms, a.before a0 Z = true := fun a ha => G.1 a ((by decide +kernel : ∀ d ∈ Bundle.stringAtoms, d ∈ tables_1) a ha)
theorem cs_of {Z : State} {a0 : Array Value} (G : GH Z a0) : ∃ z, Sta Z Z.heap "java/lang/String" "COMPACT_STRINGS" "Z" (.int z) ∧ ¬ z = 0 := by
  obtain ⟨z, e1⟩ := is_v (Cond.before_iff.mp (jk G 1 rfl))
  exact ⟨z, Sta.start e1 (Or.inl (jk G 0 rfl)), gotF (Cond.eq_ints e1 (Term.int_eval (0))) (not_v (Cond.before_iff.mp (jk G 2 rfl)))⟩
theorem sf_of {Z : State} {a0 : Array Value} (G : GH Z a0) : ∃ v, Sta Z Z.heap "jdk/internal/util/Preconditions" "SIOOBE_FORMATTER" "Ljava/util/function/BiFunction;" v ∧ v.isRef = true := by
  obtain ⟨v, e1, r1⟩ := isR_v (Cond.before_iff.mp (jk G 8 rfl))
  exact ⟨v, Sta.start e1 (Or.inl (jk G 7 rfl)), r1⟩
theorem nar_c8 {c : Int32} (q : ¬ c < 0 ∧ ¬ (255 : Int32) < c) : narrow .char (.int c) = .int c := by
  show Value.int (nar .char c) = _
  rw [show nar .char c = c.toUInt32.toUInt16.toUInt32.toInt32 from rfl]
  have r := c_i2c c
  obtain ⟨q1, q2⟩ := q
  rw [Int32.lt_iff_toInt_lt] at q1 q2
  have e1 : (255 : Int32).toInt = 255 := by decide
  have e0 : (0 : Int32).toInt = 0 := by decide
  congr 1
  apply Int32.toInt_inj.mp
  omega
section OwnStr
variable {W : Bool} {EL : List (String × Nat)} {Z : State} {a0 : Array Value} {own : String} {p : Program} {l : Launch} {e : Env} {R : Room} {below : List Frame} {h h' : Heap} {x b : Addr} {cs ds : List Int32}
abbrev C8 (c : Int32) : Prop := ¬ c < 0 ∧ ¬ (255 : Int32) < c
theorem c8n : ∀ c ∈ ([] : List Int32), C8 c := fun _ q => nomatch q
theorem c8c {y : Int32} {L : List Int32} (q : C8 y) (r : ∀ c ∈ L, C8 c) : ∀ c ∈ y :: L, C8 c := fun c hc => by
  rcases List.mem_cons.mp hc with rfl | hc
  · exact q
  · exact r c hc
theorem c8_m (y : Int32) : C8 (y &&& 255) := by
  have q := c_and y 255 (by decide)
  have e1 : (255 : Int32).toInt = 255 := by decide
  have e0 : (0 : Int32).toInt = 0 := by decide
  constructor <;> (intro r; rw [Int32.lt_iff_toInt_lt] at r; omega)
theorem c8_up {c : Int32} (q : C8 c) : ¬ c < 0 ∧ ¬ (65535 : Int32) < c := ⟨q.1, fun r => q.2 (by
  rw [Int32.lt_iff_toInt_lt] at r ⊢
  have e1 : (65535 : Int32).toInt = 65535 := by decide
  have e2 : (255 : Int32).toInt = 255 := by decide
  omega)⟩
theorem i2c_c16 {c : Int32} (q : ¬ c < 0 ∧ ¬ (65535 : Int32) < c) : c.toUInt32.toUInt16.toUInt32.toInt32 = c := by
  have r := c_i2c c
  obtain ⟨q1, q2⟩ := q
  rw [Int32.lt_iff_toInt_lt] at q1 q2
  have e1 : (65535 : Int32).toInt = 65535 := by decide
  have e0 : (0 : Int32).toInt = 0 := by decide
  apply Int32.toInt_inj.mp
  omega
theorem i2c_c8 {c : Int32} (q : C8 c) : c.toUInt32.toUInt16.toUInt32.toInt32 = c := i2c_c16 (c8_up q)
def Str (Z : State) (h : Heap) (a : Addr) (cs : List Int32) : Prop := ∃ (t : Addr) (kb : ClassId), Exa Z h a "java/lang/String" ∧ Fld Z h a "java/lang/String" "value" "[B" (.ref t) ∧ Fld Z h a "java/lang/String" "coder" "B" (.int 0) ∧ Arv Z h t kb .byte (Int32.ofNat cs.length) ((cs.map fun c => c.toInt8.toInt32).map Value.int) (.int 0) ∧ (∀ c ∈ cs, C8 c) ∧ cs.length ≤ 4000
theorem Str.exa (S : Str Z h x cs) : Exa Z h x "java/lang/String" := by obtain ⟨t, k, q, -⟩ := S; exact q
theorem Str.keep (S : Str Z h x cs) (K : Keep h h' []) : Str Z h' x cs := by
  obtain ⟨t, k, q1, q2, q3, q4, q5, q6⟩ := S
  exact ⟨t, k, q1.keep K, q2.keep K nin0, q3.keep K nin0, q4.keep K nin0, q5, q6⟩
theorem Str.ext (S : Str Z h x cs) (E : Ext h h') : Str Z h' x cs := S.keep ((Keep.refl h []).ext E)
theorem Str.keepX {C : String} {n : Nat} (S : Str Z h x cs) (K : Keep h h' [b]) (E : Exa Z h b C) (hC : C ≠ "java/lang/String") (wi : (Jvm.Cond.instantiable C n).before a0 Z = true) : Str Z h' x cs := by
  obtain ⟨t, k, q1, q2, q3, q4, q5, q6⟩ := S
  have n1 : x ≠ b := ne_exa q1 E (Ne.symm hC)
  obtain ⟨cl, Ar, -⟩ := id q4
  have n2 : t ≠ b := Ne.symm (ne_arr E wi Ar)
  exact ⟨t, k, q1.keep K, q2.keep K (ninS n1 nin0), q3.keep K (ninS n1 nin0), q4.keep K (ninS n2 nin0), q5, q6⟩
theorem safe_null {vm : Vm} (hal : Z.vm.Alike vm) (E : Exa Z h x "java/lang/String") (V : Fld Z h x "java/lang/String" "value" "[B" .null) : Safe Z EL vm h x := fun B => by
  obtain ⟨cell, k, e1, e2, e3, -, -⟩ := E
  obtain ⟨cell', cf, k', i, f, v1, v2, v3, v4, v5, v6, v7⟩ := V
  cases e1.symm.trans v1
  obtain ⟨p, -, u, a, -, q, -, F, rfl | rfl⟩ := B
  · cases (show h[q.sa]? = some q.sC from F.ha).symm.trans e1
    obtain ⟨cS, ⟨⟨s1, s2, s3, ⟨cv, kv, iv, s4, s4'⟩, s5, s6, s7, s8, s9⟩, -, -⟩, -⟩ := F
    obtain ⟨kz, z4⟩ := ff_back (U := Wst Z vm h) hal s4
    cases z4.symm.trans v2
    rw [s8] at v7
    cases v7
  · cases (show h[q.sd]? = some q.SA from F.hd).symm.trans e1
    obtain ⟨cS, -, -, fB, -⟩ := F
    have f' : vm.findClass "[B" = some q.SA.cls := fB
    rw [hal.findClass] at f'
    obtain ⟨k1, q1, q2⟩ := Vm.findClass_spec f'
    obtain ⟨k2, q3, q4⟩ := Vm.findClass_spec e2
    cases q1.symm.trans q3
    exact absurd (q2.symm.trans q4) (by decide)
theorem pay_new (G : GH Z a0) (O : Old Z Z.heap.size h) {kC : ClassId} {d v0 c0 : Value} {N : Int32} {n Wd : Nat} (hx0 : Z.heap.size ≤ x) (E : Exa Z h x "java/lang/String") (V : Fld Z h x "java/lang/String" "value" "[B" v0) (C : Fld Z h x "java/lang/String" "coder" "B" c0) (K : Arv Z h b kC .char N (cs.map Value.int) d) (hn : cs.length = n) (hN : N = Int32.ofNat n) (l0 : 0 < n) (l2 : n ≤ 4000) (hp : ∀ c ∈ cs, C8 c) (hfr : 4 ≤ R.frames) (hlo : Wd + 65 ≤ R.locals) :
    Pay l R p e below Z (⟨"java/lang/String", "<init>", "([C)V"⟩ : MethodName) Wd #[.ref x, .ref b] h 1 n [x] (rno fun h' => Str Z h' x cs) := by
  intro s args hZ
  obtain ⟨z, hS, hz⟩ := cs_of G
  refine (StrChars.Road.backV (W := Wd) hZ (fun d hd => G.1 d ((by decide +kernel : ∀ d ∈ StrChars.Road.words, d ∈ tables_1) d hd)) (kI := 4) (wk G 2 rfl) hx0 O.2.1 E V C K (hS.ext O.2) hz hn hN l0 l2 hp rfl hfr hlo).mono (fun _ _ q => q) ?_
  rintro A a v B - ⟨L, ⟨rfl, q1, q2, q3, q4, t, kb, q5, q6, q7, q8, q9⟩, b1, b2, b3⟩
  subst hn hN
  exact ⟨L, ⟨⟨rfl, t, kb, q3, q8, q4, q9, hp, l2⟩, q1, q2⟩, b1, b2, b3⟩
end OwnStr
def sa (Z : State) (C n d : String) : Addr := (((Term.static C n d).eval #[] Z none [] Z).bind refO).getD 0
theorem sta_ref {Z : State} {a0 : Array Value} {C n d K : String} (q : (Jvm.Cond.exactly (.static C n d) K).value a0 Z none Z [] = some true) (hi : (Jvm.Cond.initialized C).before a0 Z = true ∧ (Jvm.Cond.laysStatic C n d).before a0 Z = true) : Sta Z Z.heap C n d (.ref (sa Z C n d)) ∧ Exa Z Z.heap (sa Z C n d) K := by
  obtain ⟨y, e1⟩ := exa_v q
  have r : sa Z C n d = y := by
    unfold sa
    rw [show (Term.static C n d).eval #[] Z none [] Z = some (.ref y) from e1]
    rfl
  rw [r]
  exact ⟨Sta.start e1 (Or.inr hi), Exa.start e1 q⟩
def s_READ (Z : State) : Addr := sa Z "com/example/bailiwick/bailiwick/resource/AccessLevel" "READ" "Lcom/example/bailiwick/bailiwick/resource/AccessLevel;"
theorem se_READ {Z : State} {a0 : Array Value} (G : GH Z a0) : Sta Z Z.heap "com/example/bailiwick/bailiwick/resource/AccessLevel" "READ" "Lcom/example/bailiwick/bailiwick/resource/AccessLevel;" (.ref (s_READ Z)) ∧ Exa Z Z.heap (s_READ Z) "com/example/bailiwick/bailiwick/resource/AccessLevel" := sta_ref ((and_e G.2.2.2.1).1) ⟨(wk G 35 rfl), (wk G 36 rfl)⟩
def s_NONE (Z : State) : Addr := sa Z "com/example/bailiwick/bailiwick/resource/AccessLevel" "NONE" "Lcom/example/bailiwick/bailiwick/resource/AccessLevel;"
theorem se_NONE {Z : State} {a0 : Array Value} (G : GH Z a0) : Sta Z Z.heap "com/example/bailiwick/bailiwick/resource/AccessLevel" "NONE" "Lcom/example/bailiwick/bailiwick/resource/AccessLevel;" (.ref (s_NONE Z)) ∧ Exa Z Z.heap (s_NONE Z) "com/example/bailiwick/bailiwick/resource/AccessLevel" := sta_ref ((and_e (and_e G.2.2.2.1).2).1) ⟨(wk G 35 rfl), (wk G 78 rfl)⟩
def s_WRITE (Z : State) : Addr := sa Z "com/example/bailiwick/bailiwick/resource/AccessLevel" "WRITE" "Lcom/example/bailiwick/bailiwick/resource/AccessLevel;"
theorem se_WRITE {Z : State} {a0 : Array Value} (G : GH Z a0) : Sta Z Z.heap "com/example/bailiwick/bailiwick/resource/AccessLevel" "WRITE" "Lcom/example/bailiwick/bailiwick/resource/AccessLevel;" (.ref (s_WRITE Z)) ∧ Exa Z Z.heap (s_WRITE Z) "com/example/bailiwick/bailiwick/resource/AccessLevel" := sta_ref ((and_e (and_e (and_e G.2.2.2.1).2).2).1) ⟨(wk G 35 rfl), (wk G 116 rfl)⟩
def s_ALL (Z : State) : Addr := sa Z "com/example/bailiwick/bailiwick/resource/AccessLevel" "ALL" "Lcom/example/bailiwick/bailiwick/resource/AccessLevel;"
theorem se_ALL {Z : State} {a0 : Array Value} (G : GH Z a0) : Sta Z Z.heap "com/example/bailiwick/bailiwick/resource/AccessLevel" "ALL" "Lcom/example/bailiwick/bailiwick/resource/AccessLevel;" (.ref (s_ALL Z)) ∧ Exa Z Z.heap (s_ALL Z) "com/example/bailiwick/bailiwick/resource/AccessLevel" := sta_ref ((and_e (and_e (and_e G.2.2.2.1).2).2).2) ⟨(wk G 35 rfl), (wk G 140 rfl)⟩
theorem d1_0 : decode jdk_43_method_3_code 0 = .ok (.iload_n 0, 1) := by decide +kernel
theorem d1_1 : decode jdk_43_method_3_code 1 = .ok (.sipush 255, 3) := by decide +kernel
theorem d1_4 : decode jdk_43_method_3_code 4 = .ok (.if_icmp .gt 7, 3) := by decide +kernel
theorem d1_7 : decode jdk_43_method_3_code 7 = .ok (.iconst 1, 1) := by decide +kernel
theorem d1_8 : decode jdk_43_method_3_code 8 = .ok (.goto 4, 3) := by decide +kernel
theorem d1_12 : decode jdk_43_method_3_code 12 = .ok (.ireturn, 1) := by decide +kernel
theorem pn1 : plainName "java/lang/StringLatin1" = true := by first | (simp [plainName, overriddenIn]; done) | decide +kernel
theorem d2_0 : decode jdk_43_method_46_code 0 = .ok (.iconst 1, 1) := by decide +kernel
theorem d2_1 : decode jdk_43_method_46_code 1 = .ok (.newarray .byte, 2) := by decide +kernel
theorem d2_3 : decode jdk_43_method_46_code 3 = .ok (.dup, 1) := by decide +kernel
theorem d2_4 : decode jdk_43_method_46_code 4 = .ok (.iconst 0, 1) := by decide +kernel
theorem d2_5 : decode jdk_43_method_46_code 5 = .ok (.iload_n 0, 1) := by decide +kernel
theorem d2_6 : decode jdk_43_method_46_code 6 = .ok (.i2b, 1) := by decide +kernel
theorem d2_7 : decode jdk_43_method_46_code 7 = .ok (.bastore, 1) := by decide +kernel
theorem d2_8 : decode jdk_43_method_46_code 8 = .ok (.areturn, 1) := by decide +kernel
theorem d3_0 : decode jdk_42_method_151_code 0 = .ok (.aload_n 0, 1) := by decide +kernel
theorem d3_1 : decode jdk_42_method_151_code 1 = .ok (.invokespecial 1, 3) := by decide +kernel
theorem d3_4 : decode jdk_42_method_151_code 4 = .ok (.aload_n 0, 1) := by decide +kernel
theorem d3_5 : decode jdk_42_method_151_code 5 = .ok (.aload_n 1, 1) := by decide +kernel
theorem d3_6 : decode jdk_42_method_151_code 6 = .ok (.putfield 9, 3) := by decide +kernel
theorem d3_9 : decode jdk_42_method_151_code 9 = .ok (.aload_n 0, 1) := by decide +kernel
theorem d3_10 : decode jdk_42_method_151_code 10 = .ok (.iload_n 2, 1) := by decide +kernel
theorem d3_11 : decode jdk_42_method_151_code 11 = .ok (.putfield 15, 3) := by decide +kernel
theorem d3_14 : decode jdk_42_method_151_code 14 = .ok (.return_, 1) := by decide +kernel
theorem pn2 : plainName "java/lang/String" = true := by first | (simp [plainName, overriddenIn]; done) | decide +kernel
theorem d4_0 : decode jdk_42_method_139_code 0 = .ok (.getstatic 38, 3) := by decide +kernel
theorem d4_3 : decode jdk_42_method_139_code 3 = .ok (.ifCond .eq 23, 3) := by decide +kernel
theorem d4_6 : decode jdk_42_method_139_code 6 = .ok (.iload_n 0, 1) := by decide +kernel
theorem pd1 : parseMethodDescriptor "(C)Z" = some ⟨[.char], some .boolean⟩ := by decide +kernel
theorem d4_7 : decode jdk_42_method_139_code 7 = .ok (.invokestatic 1015, 3) := by decide +kernel
theorem d4_10 : decode jdk_42_method_139_code 10 = .ok (.ifCond .eq 16, 3) := by decide +kernel
theorem d4_13 : decode jdk_42_method_139_code 13 = .ok (.new 10, 3) := by decide +kernel
theorem d4_16 : decode jdk_42_method_139_code 16 = .ok (.dup, 1) := by decide +kernel
theorem d4_17 : decode jdk_42_method_139_code 17 = .ok (.iload_n 0, 1) := by decide +kernel
theorem pd2 : parseMethodDescriptor "(C)[B" = some ⟨[.char], some (.array .byte)⟩ := by decide +kernel
theorem d4_18 : decode jdk_42_method_139_code 18 = .ok (.invokestatic 1018, 3) := by decide +kernel
theorem d4_21 : decode jdk_42_method_139_code 21 = .ok (.iconst 0, 1) := by decide +kernel
theorem pd3 : parseMethodDescriptor "([BB)V" = some ⟨[(.array .byte), .byte], none⟩ := by decide +kernel
theorem d4_22 : decode jdk_42_method_139_code 22 = .ok (.invokespecial 209, 3) := by decide +kernel
theorem d4_25 : decode jdk_42_method_139_code 25 = .ok (.areturn, 1) := by decide +kernel
theorem d5_0 : decode jdk_42_method_66_code 0 = .ok (.aload_n 0, 1) := by decide +kernel
theorem d5_1 : decode jdk_42_method_66_code 1 = .ok (.aload_n 1, 1) := by decide +kernel
theorem d5_2 : decode jdk_42_method_66_code 2 = .ok (.if_acmp .ne 5, 3) := by decide +kernel
theorem d5_5 : decode jdk_42_method_66_code 5 = .ok (.iconst 1, 1) := by decide +kernel
theorem d5_6 : decode jdk_42_method_66_code 6 = .ok (.ireturn, 1) := by decide +kernel
theorem d6_0 : decode prog_9_method_1_code 0 = .ok (.aload_n 0, 1) := by decide +kernel
theorem d6_1 : decode prog_9_method_1_code 1 = .ok (.invokespecial 1, 3) := by decide +kernel
theorem d6_4 : decode prog_9_method_1_code 4 = .ok (.aload_n 0, 1) := by decide +kernel
theorem d6_5 : decode prog_9_method_1_code 5 = .ok (.aload_n 1, 1) := by decide +kernel
theorem d6_6 : decode prog_9_method_1_code 6 = .ok (.putfield 7, 3) := by decide +kernel
theorem d6_9 : decode prog_9_method_1_code 9 = .ok (.aload_n 0, 1) := by decide +kernel
theorem d6_10 : decode prog_9_method_1_code 10 = .ok (.aload_n 2, 1) := by decide +kernel
theorem d6_11 : decode prog_9_method_1_code 11 = .ok (.putfield 13, 3) := by decide +kernel
theorem d6_14 : decode prog_9_method_1_code 14 = .ok (.aload_n 0, 1) := by decide +kernel
theorem d6_15 : decode prog_9_method_1_code 15 = .ok (.iload_n 3, 1) := by decide +kernel
theorem d6_16 : decode prog_9_method_1_code 16 = .ok (.putfield 16, 3) := by decide +kernel
theorem d6_19 : decode prog_9_method_1_code 19 = .ok (.aload_n 0, 1) := by decide +kernel
theorem d6_20 : decode prog_9_method_1_code 20 = .ok (.aload 4, 2) := by decide +kernel
theorem d6_22 : decode prog_9_method_1_code 22 = .ok (.putfield 20, 3) := by decide +kernel
theorem d6_25 : decode prog_9_method_1_code 25 = .ok (.aload_n 0, 1) := by decide +kernel
theorem d6_26 : decode prog_9_method_1_code 26 = .ok (.aload 5, 2) := by decide +kernel
theorem d6_28 : decode prog_9_method_1_code 28 = .ok (.putfield 23, 3) := by decide +kernel
theorem d6_31 : decode prog_9_method_1_code 31 = .ok (.return_, 1) := by decide +kernel
theorem pn3 : plainName "com/example/bailiwick/bailiwick/policy/AccessExplanation" = true := by first | (simp [plainName, overriddenIn]; done) | decide +kernel
theorem d7_0 : decode prog_9_method_6_code 0 = .ok (.aload_n 0, 1) := by decide +kernel
theorem d7_1 : decode prog_9_method_6_code 1 = .ok (.getfield 7, 3) := by decide +kernel
theorem d7_4 : decode prog_9_method_6_code 4 = .ok (.areturn, 1) := by decide +kernel
theorem d8_0 : decode prog_9_method_7_code 0 = .ok (.aload_n 0, 1) := by decide +kernel
theorem d8_1 : decode prog_9_method_7_code 1 = .ok (.getfield 13, 3) := by decide +kernel
theorem d8_4 : decode prog_9_method_7_code 4 = .ok (.areturn, 1) := by decide +kernel
theorem d9_0 : decode prog_9_method_9_code 0 = .ok (.aload_n 0, 1) := by decide +kernel
theorem d9_1 : decode prog_9_method_9_code 1 = .ok (.getfield 20, 3) := by decide +kernel
theorem d9_4 : decode prog_9_method_9_code 4 = .ok (.areturn, 1) := by decide +kernel
theorem d10_0 : decode prog_9_method_8_code 0 = .ok (.aload_n 0, 1) := by decide +kernel
theorem d10_1 : decode prog_9_method_8_code 1 = .ok (.getfield 16, 3) := by decide +kernel
theorem d10_4 : decode prog_9_method_8_code 4 = .ok (.ireturn, 1) := by decide +kernel
theorem d11_0 : decode prog_9_method_10_code 0 = .ok (.aload_n 0, 1) := by decide +kernel
theorem d11_1 : decode prog_9_method_10_code 1 = .ok (.getfield 23, 3) := by decide +kernel
theorem d11_4 : decode prog_9_method_10_code 4 = .ok (.areturn, 1) := by decide +kernel
theorem d12_0 : decode method_2_code 0 = .ok (.iload_n 0, 1) := by decide +kernel
theorem d12_1 : decode method_2_code 1 = .ok (.ifCond .ne 7, 3) := by decide +kernel
theorem d12_4 : decode method_2_code 4 = .ok (.getstatic 7, 3) := by decide +kernel
theorem d12_7 : decode method_2_code 7 = .ok (.areturn, 1) := by decide +kernel
theorem d12_8 : decode method_2_code 8 = .ok (.iload_n 0, 1) := by decide +kernel
theorem d12_9 : decode method_2_code 9 = .ok (.iconst 1, 1) := by decide +kernel
theorem d12_10 : decode method_2_code 10 = .ok (.if_icmp .ne 7, 3) := by decide +kernel
theorem d12_13 : decode method_2_code 13 = .ok (.getstatic 13, 3) := by decide +kernel
theorem d12_16 : decode method_2_code 16 = .ok (.areturn, 1) := by decide +kernel
theorem d12_17 : decode method_2_code 17 = .ok (.iload_n 0, 1) := by decide +kernel
theorem d12_18 : decode method_2_code 18 = .ok (.iconst 2, 1) := by decide +kernel
theorem d12_19 : decode method_2_code 19 = .ok (.if_icmp .ne 7, 3) := by decide +kernel
theorem d12_22 : decode method_2_code 22 = .ok (.getstatic 16, 3) := by decide +kernel
theorem d12_25 : decode method_2_code 25 = .ok (.areturn, 1) := by decide +kernel
theorem d12_26 : decode method_2_code 26 = .ok (.getstatic 19, 3) := by decide +kernel
theorem d12_29 : decode method_2_code 29 = .ok (.areturn, 1) := by decide +kernel
theorem pn4 : plainName "com/example/bailiwick/bailiwick/policy/AccessExplanationGrantedPinLaw" = true := by first | (simp [plainName, overriddenIn]; done) | decide +kernel
theorem d13_0 : decode method_3_code 0 = .ok (.iload_n 0, 1) := by decide +kernel
theorem d13_1 : decode method_3_code 1 = .ok (.ifCond .ne 6, 3) := by decide +kernel
theorem d13_4 : decode method_3_code 4 = .ok (.ldc 24, 2) := by decide +kernel
theorem d13_6 : decode method_3_code 6 = .ok (.areturn, 1) := by decide +kernel
theorem d13_7 : decode method_3_code 7 = .ok (.iload_n 0, 1) := by decide +kernel
theorem d13_8 : decode method_3_code 8 = .ok (.iconst 1, 1) := by decide +kernel
theorem d13_9 : decode method_3_code 9 = .ok (.if_icmp .ne 6, 3) := by decide +kernel
theorem d13_12 : decode method_3_code 12 = .ok (.ldc 26, 2) := by decide +kernel
theorem d13_14 : decode method_3_code 14 = .ok (.areturn, 1) := by decide +kernel
theorem d13_15 : decode method_3_code 15 = .ok (.ldc 28, 2) := by decide +kernel
theorem d13_17 : decode method_3_code 17 = .ok (.areturn, 1) := by decide +kernel
theorem d14_0 : decode prog_17_method_1_code 0 = .ok (.aload_n 0, 1) := by decide +kernel
theorem d14_1 : decode prog_17_method_1_code 1 = .ok (.invokespecial 1, 3) := by decide +kernel
theorem d14_4 : decode prog_17_method_1_code 4 = .ok (.aload_n 0, 1) := by decide +kernel
theorem d14_5 : decode prog_17_method_1_code 5 = .ok (.aload_n 1, 1) := by decide +kernel
theorem d14_6 : decode prog_17_method_1_code 6 = .ok (.putfield 7, 3) := by decide +kernel
theorem d14_9 : decode prog_17_method_1_code 9 = .ok (.aload_n 0, 1) := by decide +kernel
theorem d14_10 : decode prog_17_method_1_code 10 = .ok (.aload_n 2, 1) := by decide +kernel
theorem d14_11 : decode prog_17_method_1_code 11 = .ok (.putfield 13, 3) := by decide +kernel
theorem d14_14 : decode prog_17_method_1_code 14 = .ok (.aload_n 0, 1) := by decide +kernel
theorem d14_15 : decode prog_17_method_1_code 15 = .ok (.aload_n 3, 1) := by decide +kernel
theorem d14_16 : decode prog_17_method_1_code 16 = .ok (.putfield 16, 3) := by decide +kernel
theorem d14_19 : decode prog_17_method_1_code 19 = .ok (.aload_n 0, 1) := by decide +kernel
theorem d14_20 : decode prog_17_method_1_code 20 = .ok (.aload 4, 2) := by decide +kernel
theorem d14_22 : decode prog_17_method_1_code 22 = .ok (.putfield 19, 3) := by decide +kernel
theorem d14_25 : decode prog_17_method_1_code 25 = .ok (.return_, 1) := by decide +kernel
theorem pn5 : plainName "com/example/bailiwick/bailiwick/resource/Grant" = true := by first | (simp [plainName, overriddenIn]; done) | decide +kernel
theorem d15_0 : decode prog_17_method_8_code 0 = .ok (.aload_n 0, 1) := by decide +kernel
theorem d15_1 : decode prog_17_method_8_code 1 = .ok (.getfield 19, 3) := by decide +kernel
theorem d15_4 : decode prog_17_method_8_code 4 = .ok (.areturn, 1) := by decide +kernel
theorem d16_0 : decode prog_9_method_4_code 0 = .ok (.new 8, 3) := by decide +kernel
theorem d16_3 : decode prog_9_method_4_code 3 = .ok (.dup, 1) := by decide +kernel
theorem d16_4 : decode prog_9_method_4_code 4 = .ok (.aload_n 0, 1) := by decide +kernel
theorem d16_5 : decode prog_9_method_4_code 5 = .ok (.aload_n 1, 1) := by decide +kernel
theorem d16_6 : decode prog_9_method_4_code 6 = .ok (.iconst 0, 1) := by decide +kernel
theorem d16_7 : decode prog_9_method_4_code 7 = .ok (.aconst_null, 1) := by decide +kernel
theorem d16_8 : decode prog_9_method_4_code 8 = .ok (.aload_n 2, 1) := by decide +kernel
theorem pd4 : parseMethodDescriptor "(Ljava/lang/String;Ljava/lang/String;ZLjava/lang/String;Lcom/example/bailiwick/bailiwick/resource/Grant;)V" = some ⟨[(.object "java/lang/String"), (.object "java/lang/String"), .boolean, (.object "java/lang/String"), (.object "com/example/bailiwick/bailiwick/resource/Grant")], none⟩ := by decide +kernel
theorem d16_9 : decode prog_9_method_4_code 9 = .ok (.invokespecial 27, 3) := by decide +kernel
theorem d16_12 : decode prog_9_method_4_code 12 = .ok (.areturn, 1) := by decide +kernel
theorem d17_0 : decode prog_9_method_5_code 0 = .ok (.aload_n 0, 1) := by decide +kernel
theorem d17_1 : decode prog_9_method_5_code 1 = .ok (.getfield 16, 3) := by decide +kernel
theorem d17_4 : decode prog_9_method_5_code 4 = .ok (.ifCond .ne 10, 3) := by decide +kernel
theorem d17_7 : decode prog_9_method_5_code 7 = .ok (.aload_n 0, 1) := by decide +kernel
theorem d17_8 : decode prog_9_method_5_code 8 = .ok (.getfield 20, 3) := by decide +kernel
theorem d17_11 : decode prog_9_method_5_code 11 = .ok (.ifnull 10, 3) := by decide +kernel
theorem d17_21 : decode prog_9_method_5_code 21 = .ok (.aload_n 0, 1) := by decide +kernel
theorem d17_22 : decode prog_9_method_5_code 22 = .ok (.getfield 23, 3) := by decide +kernel
theorem d17_25 : decode prog_9_method_5_code 25 = .ok (.ifnull 14, 3) := by decide +kernel
theorem d17_39 : decode prog_9_method_5_code 39 = .ok (.getstatic 42, 3) := by decide +kernel
theorem d17_42 : decode prog_9_method_5_code 42 = .ok (.astore_n 1, 1) := by decide +kernel
theorem d17_43 : decode prog_9_method_5_code 43 = .ok (.aload_n 1, 1) := by decide +kernel
theorem d17_44 : decode prog_9_method_5_code 44 = .ok (.areturn, 1) := by decide +kernel
theorem d17_28 : decode prog_9_method_5_code 28 = .ok (.aload_n 0, 1) := by decide +kernel
theorem d17_29 : decode prog_9_method_5_code 29 = .ok (.getfield 23, 3) := by decide +kernel
theorem pd5 : parseMethodDescriptor "()Lcom/example/bailiwick/bailiwick/resource/AccessLevel;" = some ⟨[], some (.object "com/example/bailiwick/bailiwick/resource/AccessLevel")⟩ := by decide +kernel
theorem d17_32 : decode prog_9_method_5_code 32 = .ok (.invokevirtual 36, 3) := by decide +kernel
theorem d17_35 : decode prog_9_method_5_code 35 = .ok (.astore_n 1, 1) := by decide +kernel
theorem d17_36 : decode prog_9_method_5_code 36 = .ok (.goto 7, 3) := by decide +kernel
theorem pd6 : parseMethodDescriptor "([C)V" = some ⟨[(.array .char)], none⟩ := by decide +kernel
theorem pd7 : parseMethodDescriptor "(I)Lcom/example/bailiwick/bailiwick/resource/AccessLevel;" = some ⟨[.int], some (.object "com/example/bailiwick/bailiwick/resource/AccessLevel")⟩ := by decide +kernel
theorem pd8 : parseMethodDescriptor "(I)Ljava/lang/String;" = some ⟨[.int], some (.object "java/lang/String")⟩ := by decide +kernel
theorem pd9 : parseMethodDescriptor "(C)Ljava/lang/String;" = some ⟨[.char], some (.object "java/lang/String")⟩ := by decide +kernel
theorem pd10 : parseMethodDescriptor "(Ljava/lang/String;Ljava/lang/String;Lcom/example/bailiwick/bailiwick/resource/Grant;)Lcom/example/bailiwick/bailiwick/policy/AccessExplanation;" = some ⟨[(.object "java/lang/String"), (.object "java/lang/String"), (.object "com/example/bailiwick/bailiwick/resource/Grant")], some (.object "com/example/bailiwick/bailiwick/policy/AccessExplanation")⟩ := by decide +kernel
theorem pd11 : parseMethodDescriptor "()Ljava/lang/String;" = some ⟨[], some (.object "java/lang/String")⟩ := by decide +kernel
theorem pd12 : parseMethodDescriptor "(Ljava/lang/Object;)Z" = some ⟨[(.object "java/lang/Object")], some .boolean⟩ := by decide +kernel
theorem pd13 : parseMethodDescriptor "()Z" = some ⟨[], some .boolean⟩ := by decide +kernel
theorem pd14 : parseMethodDescriptor "()Lcom/example/bailiwick/bailiwick/resource/Grant;" = some ⟨[], some (.object "com/example/bailiwick/bailiwick/resource/Grant")⟩ := by decide +kernel
theorem pd15 : parseMethodDescriptor "(Ljava/lang/String;Ljava/lang/String;Ljava/lang/String;Lcom/example/bailiwick/bailiwick/resource/AccessLevel;)V" = some ⟨[(.object "java/lang/String"), (.object "java/lang/String"), (.object "java/lang/String"), (.object "com/example/bailiwick/bailiwick/resource/AccessLevel")], none⟩ := by decide +kernel
theorem ef_canenc (m : MethodId) (c : Int32)  : entryFrame m #[(.int c)] 1 = mkF m 0 #[.val (.int c)] [] := by first | (simp [entryFrame, mkF, argsToLocals, Value.category]; done) | rfl
def Q_canenc (Z : State) (c : Int32)  (h0 : Heap) (xv : Value) (h : Heap) : Prop := (.int (1 : Int32)) = xv ∧ h0 = h
set_option maxRecDepth 65536 in
set_option maxHeartbeats 40000000 in
theorem c_canenc (l : Launch) {Z : State} {a0 : Array Value} (G : GH Z a0) (c : Int32)  (h0 : Heap) (O0 : Old Z Z.heap.size h0) (p1 : C8 c) : Con false [] l Z (⟨"java/lang/StringLatin1", "canEncode", "(C)Z"⟩ : MethodName) jdk_43_method_3_code 1 (some .boolean) [] ({ frames := 0, cells := 0, slots := 0, locals := 0 } : Room) #[(.int c)] h0 [] (rvl (Q_canenc Z c h0)) := by
  refine con_of (a0 := a0) pn1 (fun q => rfl) EW.nil O0 (fun m => ef_canenc m c) ?_
  intro p_ e_ s_ m_ below_ meth_ c_ hby hml hret hlk hnm
  refine go_iload_n (pc' := 1) (hb hby d1_0) rfl rfl ?_
  refine go_sipush (pc' := 4) (v := 255) (hb hby d1_1) rfl rfl ?_
  refine go_icF (pc' := 7) (hb hby d1_4) rfl (XT.ii_gt_f p1.2) ?_
  refine go_iconst (pc' := 8) (v := 1) (hb hby d1_7) rfl rfl ?_
  refine go_goto (pc' := 12) (hb hby d1_8) (by decide) rfl ?_
  refine go_ireturn hret hlk rfl (by simp) (hb hby d1_12) (by decide) (by decide) ⟨_, rfl, ⟨rfl, rfl⟩⟩ (Keep.refl h0 [])
theorem ef_tobytes (m : MethodId) (c : Int32)  : entryFrame m #[(.int c)] 1 = mkF m 0 #[.val (.int c)] [] := by first | (simp [entryFrame, mkF, argsToLocals, Value.category]; done) | rfl
def Q_tobytes (Z : State) (c : Int32)  (h0 : Heap) (xv : Value) (h : Heap) : Prop := ∃ (r : Addr) (k : ClassId), (.ref r) = xv ∧ h0.size ≤ r ∧ Arv Z h r k .byte (1 : Int32) [(.int (c).toInt8.toInt32)] (.int 0)
set_option maxRecDepth 65536 in
set_option maxHeartbeats 40000000 in
theorem c_tobytes (l : Launch) {Z : State} {a0 : Array Value} (G : GH Z a0) (c : Int32)  (h0 : Heap) (O0 : Old Z Z.heap.size h0)  : Con false [] l Z (⟨"java/lang/StringLatin1", "toBytes", "(C)[B"⟩ : MethodName) jdk_43_method_46_code 1 (some (.array .byte)) [] ({ frames := 0, cells := 1, slots := 1, locals := 0 } : Room) #[(.int c)] h0 [] (rvl (Q_tobytes Z c h0)) := by
  refine con_of (a0 := a0) pn1 (fun q => rfl) EW.nil O0 (fun m => ef_tobytes m c) ?_
  intro p_ e_ s_ m_ below_ meth_ c_ hby hml hret hlk hnm
  refine go_iconst (pc' := 1) (v := 1) (hb hby d2_0) rfl rfl ?_
  refine go_newP (pc' := 3) (cells' := 1) (slots' := 1) (cap := 1) (vs := [(.int (0 : Int32))]) (ty := .byte) (dv := .int 0) (wk G 19 rfl) rfl rfl (hb hby d2_1) rfl (by decide) rfl (by decide) rfl rfl rfl (by decide) (by decide) (fun h1 a2 k6 g3 X4 A5 => ?_)
  refine go_dup (pc' := 4) (hb hby d2_3) rfl rfl ?_
  refine go_iconst (pc' := 5) (v := 0) (hb hby d2_4) rfl rfl ?_
  refine go_iload_n (pc' := 6) (hb hby d2_5) rfl rfl ?_
  refine go_i2b (pc' := 7) (z := (c).toInt8.toInt32) (hb hby d2_6) rfl rfl ?_
  refine go_stB (pc' := 8) (i := 0) (x' := (c).toInt8.toInt32) (vs' := [(.int (c).toInt8.toInt32)]) rfl A5 (Nat.le_trans O0.2.1 (Nat.le_of_eq g3)) (by decide) (by decide) rfl (Nat.le_of_ble_eq_true rfl) (i2b_i2b _) rfl (hb hby d2_7) rfl (fun h7 W8 A9 => ?_)
  have K10 : Keep h0 h1 [] := ((Keep.refl h0 []).ext X4)
  have K11 : Keep h0 h7 [] := (K10.wr W8 (Or.inr (Nat.le_of_eq g3)))
  refine go_areturn hret hlk rfl rfl (hb hby d2_8) (by decide) (by decide) ⟨_, rfl, ⟨a2, k6, rfl, (Nat.le_of_eq g3), A9⟩⟩ K11
theorem ef_strbb (m : MethodId) (a : Addr) (t : Addr)  : entryFrame m #[(.ref a), (.ref t), (.int (0 : Int32))] 3 = mkF m 0 #[.val (.ref a), .val (.ref t), .val (.int (0 : Int32))] [] := by first | (simp [entryFrame, mkF, argsToLocals, Value.category]; done) | rfl
def Q_strbb (Z : State) (a : Addr) (t : Addr)  (h0 : Heap) (h : Heap) : Prop := Fld Z h a "java/lang/String" "value" "[B" (.ref t) ∧ Fld Z h a "java/lang/String" "coder" "B" (.int (0 : Int32))
set_option maxRecDepth 65536 in
set_option maxHeartbeats 40000000 in
theorem c_strbb (l : Launch) {Z : State} {a0 : Array Value} (G : GH Z a0) (a : Addr) (t : Addr)  (h0 : Heap) (O0 : Old Z Z.heap.size h0) (p1 : Exa Z h0 a "java/lang/String") (p2 : Z.heap.size ≤ a) (p3 : Fld Z h0 a "java/lang/String" "value" "[B" .null) (p4 : Fld Z h0 a "java/lang/String" "coder" "B" (.int (0 : Int32))) : Con false [] l Z (⟨"java/lang/String", "<init>", "([BB)V"⟩ : MethodName) jdk_42_method_151_code 3 none [] ({ frames := 1, cells := 0, slots := 0, locals := 12 } : Room) #[(.ref a), (.ref t), (.int (0 : Int32))] h0 [a] (rno (Q_strbb Z a t h0)) := by
  refine con_of (a0 := a0) pn2 (fun q => rfl) EW.nil O0 (fun m => ef_strbb m a t) ?_
  intro p_ e_ s_ m_ below_ meth_ c_ hby hml hret hlk hnm
  refine go_aload_n (pc' := 1) (hb hby d3_0) rfl rfl rfl ?_
  refine go_initO (pc' := 4) (Wd := 0) (wk G 11 rfl) (wk G 12 rfl) (wk G 13 rfl) (by rw [hml]; rfl) (by decide) (by decide) (by decide) (hb hby d3_1) rfl ?_
  refine go_aload_n (pc' := 5) (hb hby d3_4) rfl rfl rfl ?_
  refine go_aload_n (pc' := 6) (hb hby d3_5) rfl rfl rfl ?_
  refine go_putF (pc' := 9) (wk G 28 rfl) Via.refl p3 p1 (Or.inr ⟨(wk G 29 rfl), rfl, hnm⟩) (wk G 2 rfl) (ty := (.array .byte)) (v' := (.ref t)) (by decide) rfl rfl p2 (Or.inr rfl) (hb hby d3_6) rfl (fun h1 W2 => ?_)
  have F3 := Fld.same W2 p3
  refine go_aload_n (pc' := 10) (hb hby d3_9) rfl rfl rfl ?_
  refine go_iload_n (pc' := 11) (hb hby d3_10) rfl rfl ?_
  have F4 := (p4.other W2 (Or.inr (slot_ne (t := .byte) (t' := (.array .byte)) (Or.inr (wk G 27 rfl)) (Or.inr (wk G 29 rfl)) (by decide) (by decide) (by decide))))
  have E5 := (p1.wr W2)
  refine go_putF (pc' := 14) (wk G 26 rfl) Via.refl F4 E5 (Or.inr ⟨(wk G 27 rfl), rfl, hnm⟩) (wk G 2 rfl) (ty := .byte) (v' := (.int (0 : Int32))) (by decide) rfl (by decide) p2 (Or.inr rfl) (hb hby d3_11) rfl (fun h6 W7 => ?_)
  have F8 := Fld.same W7 F4
  have K9 : Keep h0 h1 [a] := ((Keep.refl h0 [a]).wr W2 (Or.inl (by simp)))
  have K10 : Keep h0 h6 [a] := (K9.wr W7 (Or.inl (by simp)))
  have F11 := (F3.other W7 (Or.inr (slot_ne (t := (.array .byte)) (t' := .byte) (Or.inr (wk G 29 rfl)) (Or.inr (wk G 27 rfl)) (by decide) (by decide) (by decide))))
  refine go_return hret hlk (hb hby d3_14) (by decide) (by decide) ⟨rfl, ⟨F11, F8⟩⟩ K10
theorem ef_valueof (m : MethodId) (c : Int32)  : entryFrame m #[(.int c)] 1 = mkF m 0 #[.val (.int c)] [] := by first | (simp [entryFrame, mkF, argsToLocals, Value.category]; done) | rfl
def Q_valueof (Z : State) (c : Int32)  (h0 : Heap) (xv : Value) (h : Heap) : Prop := ∃ (r : Addr), (.ref r) = xv ∧ h0.size ≤ r ∧ Str Z h r [c]
set_option maxRecDepth 65536 in
set_option maxHeartbeats 40000000 in
theorem c_valueof (l : Launch) {Z : State} {a0 : Array Value} (G : GH Z a0) (c : Int32)  (h0 : Heap) (O0 : Old Z Z.heap.size h0) (p1 : C8 c) : Con false [] l Z (⟨"java/lang/String", "valueOf", "(C)Ljava/lang/String;"⟩ : MethodName) jdk_42_method_139_code 1 (some (.object "java/lang/String")) [] ({ frames := 2, cells := 2, slots := 5, locals := 27 } : Room) #[(.int c)] h0 [] (rvl (Q_valueof Z c h0)) := by
  refine con_of (a0 := a0) pn2 (fun q => rfl) EW.nil O0 (fun m => ef_valueof m c) ?_
  intro p_ e_ s_ m_ below_ meth_ c_ hby hml hret hlk hnm
  obtain ⟨z1, s2, q3⟩ := cs_of G
  refine go_getS (pc' := 3) (wk G 14 rfl) (s2.ext O0.2) (hb hby d4_0) rfl ?_
  refine go_ifF (pc' := 6) (hb hby d4_3) rfl (XT.i0_eq_f q3) ?_
  refine go_iload_n (pc' := 7) (hb hby d4_6) rfl rfl ?_
  refine callS0 (cells' := 0) (slots' := 0) (Wd := 0) (argsL := [(.int c)]) (rest := []) (pay_of (a0 := a0) (c_canenc l G c h0 O0 p1) (wk G 49 rfl) (wk G 48 rfl) (by decide) (by decide)) (wk G 46 rfl) (wk G 47 rfl) (wk G 48 rfl) (wk G 49 rfl) (by decide) pd1 rfl rfl (by rw [hml]; rfl) (Nat.le_of_ble_eq_true rfl) rfl rfl (by decide) (by decide) all0 (fun _ _ => sf0) (hb hby d4_7) (k_v (pc' := 10) rfl ?_)
  rintro _ h4 ⟨rfl, rfl⟩ K5
  refine go_ifF (pc' := 13) (hb hby d4_10) rfl (by decide) ?_
  refine go_newO (pc' := 16) (cells' := 1) (slots' := 4) (wk G 50 rfl) (wk G 2 rfl) (wk G 3 rfl) (hb hby d4_13) rfl rfl rfl (by decide) (by decide) (fun h6 a7 g8 X9 E10 D11 U12 => ?_)
  refine go_dup (pc' := 17) (hb hby d4_16) rfl rfl ?_
  refine go_iload_n (pc' := 18) (hb hby d4_17) rfl rfl ?_
  refine go_old (fun O13 => ?_)
  refine callS0 (cells' := 2) (slots' := 5) (Wd := 2) (argsL := [(.int c)]) (rest := [(.ref a7), (.ref a7)]) (pay_of (a0 := a0) (c_tobytes l G c h6 O13 ) (wk G 53 rfl) (wk G 48 rfl) (by decide) (by decide)) (wk G 51 rfl) (wk G 52 rfl) (wk G 48 rfl) (wk G 53 rfl) (by decide) pd2 rfl rfl (by rw [hml]; rfl) (Nat.le_of_ble_eq_true rfl) rfl rfl (by decide) (by decide) all0 (fun _ _ => sf0) (hb hby d4_18) (k_v (pc' := 21) rfl ?_)
  rintro _ h14 ⟨r16, r17, rfl, f18, f19⟩ K15
  refine go_iconst (pc' := 22) (v := 0) (hb hby d4_21) rfl rfl ?_
  have K20 : Keep h6 h14 [] := ((Keep.refl h6 []).trans K15 all0)
  have E21 := (E10.keep K20)
  have F22 := D11 (Or.inr (wk G 29 rfl)) (ty := (.array .byte)) (by decide)
  have F23 := (F22.keep K20 nin0)
  have F24 := D11 (Or.inr (wk G 27 rfl)) (ty := .byte) (by decide)
  have F25 := (F24.keep K20 nin0)
  refine go_old (fun O26 => ?_)
  refine callI0 (cells' := 2) (slots' := 5) (Wd := 1) (argsL := [(.ref r16), (.int (0 : Int32))]) (rest := [(.ref a7)]) (pay_of (a0 := a0) (c_strbb l G a7 r16 h14 O26 E21 (Nat.le_trans O0.2.1 (Nat.le_of_eq g8)) F23 F25) (wk G 56 rfl) (wk G 3 rfl) (by decide) (by decide)) rfl (wk G 54 rfl) (wk G 55 rfl) (wk G 56 rfl) (by decide) pd3 rfl rfl (by rw [hml]; rfl) (Nat.le_of_ble_eq_true rfl) rfl rfl (by decide) (by decide) (allS (Nat.le_trans O0.2.1 (Nat.le_of_eq g8)) all0) (fun _ hal => (sfS safe_nil sf0)) (hb hby d4_22) (k_n (pc' := 25) rfl ?_)
  rintro  h27 ⟨f29, f30⟩ K28
  have K31 : Keep h0 h6 [] := ((Keep.refl h0 []).ext X9)
  have K32 : Keep h0 h14 [] := (K31.trans K15 all0)
  have K33 : Keep h0 h27 [] := (K32.trans K28 (allS (Or.inr (Nat.le_of_eq g8)) all0))
  have E34 := (E21.keep K28)
  have A35 := (f19.keep K28 (ninS (Nat.ne_of_gt (Nat.lt_of_lt_of_le E10.lt f18)) nin0))
  have S36 : Str Z h27 a7 [c] := ⟨r16, r17, E34, f29, f30, A35, (c8c p1 c8n), Nat.le_of_ble_eq_true rfl⟩
  refine go_areturn hret hlk rfl rfl (hb hby d4_25) (by decide) (by decide) ⟨_, rfl, ⟨a7, rfl, (Nat.le_of_eq g8), S36⟩⟩ K33
theorem ef_eqsame (m : MethodId) (a : Addr)  : entryFrame m #[(.ref a), (.ref a)] 3 = mkF m 0 #[.val (.ref a), .val (.ref a), .unset] [] := by first | (simp [entryFrame, mkF, argsToLocals, Value.category]; done) | rfl
def Q_eqsame (Z : State) (a : Addr)  (h0 : Heap) (xv : Value) (h : Heap) : Prop := (.int (1 : Int32)) = xv ∧ h0 = h
set_option maxRecDepth 65536 in
set_option maxHeartbeats 40000000 in
theorem c_eqsame (l : Launch) {Z : State} {a0 : Array Value} (G : GH Z a0) (a : Addr)  (h0 : Heap) (O0 : Old Z Z.heap.size h0)  : Con false [] l Z (⟨"java/lang/String", "equals", "(Ljava/lang/Object;)Z"⟩ : MethodName) jdk_42_method_66_code 3 (some .boolean) [] ({ frames := 0, cells := 0, slots := 0, locals := 0 } : Room) #[(.ref a), (.ref a)] h0 [] (rvl (Q_eqsame Z a h0)) := by
  refine con_of (a0 := a0) pn2 (fun q => rfl) EW.nil O0 (fun m => ef_eqsame m a) ?_
  intro p_ e_ s_ m_ below_ meth_ c_ hby hml hret hlk hnm
  refine go_aload_n (pc' := 1) (hb hby d5_0) rfl rfl rfl ?_
  refine go_aload_n (pc' := 2) (hb hby d5_1) rfl rfl rfl ?_
  refine go_acF (pc' := 5) (hb hby d5_2) rfl rfl rfl (XT.aa_ne_f rfl) ?_
  refine go_iconst (pc' := 6) (v := 1) (hb hby d5_5) rfl rfl ?_
  refine go_ireturn hret hlk rfl (by simp) (hb hby d5_6) (by decide) (by decide) ⟨_, rfl, ⟨rfl, rfl⟩⟩ (Keep.refl h0 [])
set_option maxHeartbeats 4000000 in
theorem ef_aeinit (m : MethodId) (a : Addr) (u : Value) (q : Value) (su : Int32) (o : Value) (g : Value) (hc_u : u.isRef = true) (hc_q : q.isRef = true) (hc_o : o.isRef = true) (hc_g : g.isRef = true) : entryFrame m #[(.ref a), u, q, (.int su), o, g] 6 = mkF m 0 #[.val (.ref a), .val u, .val q, .val (.int su), .val o, .val g] [] := by rcases XT.refc hc_u with rfl | ⟨_, rfl⟩ <;> rcases XT.refc hc_q with rfl | ⟨_, rfl⟩ <;> rcases XT.refc hc_o with rfl | ⟨_, rfl⟩ <;> rcases XT.refc hc_g with rfl | ⟨_, rfl⟩ <;> first | (simp [entryFrame, mkF, argsToLocals, Value.category]; done) | rfl
def Q_aeinit (Z : State) (a : Addr) (u : Value) (q : Value) (su : Int32) (o : Value) (g : Value)  (h0 : Heap) (h : Heap) : Prop := Fld Z h a "com/example/bailiwick/bailiwick/policy/AccessExplanation" "user" "Ljava/lang/String;" u ∧ Fld Z h a "com/example/bailiwick/bailiwick/policy/AccessExplanation" "path" "Ljava/lang/String;" q ∧ Fld Z h a "com/example/bailiwick/bailiwick/policy/AccessExplanation" "superuser" "Z" (.int su) ∧ Fld Z h a "com/example/bailiwick/bailiwick/policy/AccessExplanation" "ownedPath" "Ljava/lang/String;" o ∧ Fld Z h a "com/example/bailiwick/bailiwick/policy/AccessExplanation" "grant" "Lcom/example/bailiwick/bailiwick/resource/Grant;" g
set_option maxRecDepth 65536 in
set_option maxHeartbeats 40000000 in
theorem c_aeinit (l : Launch) {Z : State} {a0 : Array Value} (G : GH Z a0) (a : Addr) (u : Value) (q : Value) (su : Int32) (o : Value) (g : Value)  (h0 : Heap) (O0 : Old Z Z.heap.size h0) (p1 : Exa Z h0 a "com/example/bailiwick/bailiwick/policy/AccessExplanation") (p2 : Z.heap.size ≤ a) (p3 : narrow .boolean (.int su) = .int su ∧ fits .boolean (.int su) = true) (p4 : u.isRef = true) (p5 : q.isRef = true) (p6 : o.isRef = true) (p7 : g.isRef = true) (p8 : Fld Z h0 a "com/example/bailiwick/bailiwick/policy/AccessExplanation" "user" "Ljava/lang/String;" .null) (p9 : Fld Z h0 a "com/example/bailiwick/bailiwick/policy/AccessExplanation" "path" "Ljava/lang/String;" .null) (p10 : Fld Z h0 a "com/example/bailiwick/bailiwick/policy/AccessExplanation" "superuser" "Z" (.int (0 : Int32))) (p11 : Fld Z h0 a "com/example/bailiwick/bailiwick/policy/AccessExplanation" "ownedPath" "Ljava/lang/String;" .null) (p12 : Fld Z h0 a "com/example/bailiwick/bailiwick/policy/AccessExplanation" "grant" "Lcom/example/bailiwick/bailiwick/resource/Grant;" .null) : Con false [] l Z (⟨"com/example/bailiwick/bailiwick/policy/AccessExplanation", "<init>", "(Ljava/lang/String;Ljava/lang/String;ZLjava/lang/String;Lcom/example/bailiwick/bailiwick/resource/Grant;)V"⟩ : MethodName) prog_9_method_1_code 6 none [] ({ frames := 1, cells := 0, slots := 0, locals := 12 } : Room) #[(.ref a), u, q, (.int su), o, g] h0 [a] (rno (Q_aeinit Z a u q su o g h0)) := by
  refine con_of (a0 := a0) pn3 (fun q => rfl) EW.nil O0 (fun m => ef_aeinit m a u q su o g p4 p5 p6 p7) ?_
  intro p_ e_ s_ m_ below_ meth_ c_ hby hml hret hlk hnm
  refine go_aload_n (pc' := 1) (hb hby d6_0) rfl rfl rfl ?_
  refine go_initO (pc' := 4) (Wd := 0) (wk G 66 rfl) (wk G 12 rfl) (wk G 13 rfl) (by rw [hml]; rfl) (by decide) (by decide) (by decide) (hb hby d6_1) rfl ?_
  refine go_aload_n (pc' := 5) (hb hby d6_4) rfl rfl rfl ?_
  refine go_aload_n (pc' := 6) (hb hby d6_5) rfl rfl p4 ?_
  refine go_putF (pc' := 9) (wk G 67 rfl) Via.refl p8 p1 (Or.inr ⟨(wk G 68 rfl), rfl, hnm⟩) (wk G 62 rfl) (ty := (.object "java/lang/String")) (v' := u) (by decide) (nv_obj p4) (fv_obj p4) p2 (Or.inr rfl) (hb hby d6_6) rfl (fun h1 W2 => ?_)
  have F3 := Fld.same W2 p8
  refine go_aload_n (pc' := 10) (hb hby d6_9) rfl rfl rfl ?_
  refine go_aload_n (pc' := 11) (hb hby d6_10) rfl rfl p5 ?_
  have F4 := (p9.other W2 (Or.inr (slot_ne (t := (.object "java/lang/String")) (t' := (.object "java/lang/String")) (Or.inr (wk G 70 rfl)) (Or.inr (wk G 68 rfl)) (by decide) (by decide) (by decide))))
  have E5 := (p1.wr W2)
  refine go_putF (pc' := 14) (wk G 69 rfl) Via.refl F4 E5 (Or.inr ⟨(wk G 70 rfl), rfl, hnm⟩) (wk G 62 rfl) (ty := (.object "java/lang/String")) (v' := q) (by decide) (nv_obj p5) (fv_obj p5) p2 (Or.inr rfl) (hb hby d6_11) rfl (fun h6 W7 => ?_)
  have F8 := Fld.same W7 F4
  refine go_aload_n (pc' := 15) (hb hby d6_14) rfl rfl rfl ?_
  refine go_iload_n (pc' := 16) (hb hby d6_15) rfl rfl ?_
  have F9 := ((p10.other W2 (Or.inr (slot_ne (t := .boolean) (t' := (.object "java/lang/String")) (Or.inr (wk G 72 rfl)) (Or.inr (wk G 68 rfl)) (by decide) (by decide) (by decide)))).other W7 (Or.inr (slot_ne (t := .boolean) (t' := (.object "java/lang/String")) (Or.inr (wk G 72 rfl)) (Or.inr (wk G 70 rfl)) (by decide) (by decide) (by decide))))
  have E10 := (E5.wr W7)
  refine go_putF (pc' := 19) (wk G 71 rfl) Via.refl F9 E10 (Or.inr ⟨(wk G 72 rfl), rfl, hnm⟩) (wk G 62 rfl) (ty := .boolean) (v' := (.int su)) (by decide) p3.1 p3.2 p2 (Or.inr rfl) (hb hby d6_16) rfl (fun h11 W12 => ?_)
  have F13 := Fld.same W12 F9
  refine go_aload_n (pc' := 20) (hb hby d6_19) rfl rfl rfl ?_
  refine go_aload (pc' := 22) (hb hby d6_20) rfl rfl p6 ?_
  have F14 := (((p11.other W2 (Or.inr (slot_ne (t := (.object "java/lang/String")) (t' := (.object "java/lang/String")) (Or.inr (wk G 74 rfl)) (Or.inr (wk G 68 rfl)) (by decide) (by decide) (by decide)))).other W7 (Or.inr (slot_ne (t := (.object "java/lang/String")) (t' := (.object "java/lang/String")) (Or.inr (wk G 74 rfl)) (Or.inr (wk G 70 rfl)) (by decide) (by decide) (by decide)))).other W12 (Or.inr (slot_ne (t := (.object "java/lang/String")) (t' := .boolean) (Or.inr (wk G 74 rfl)) (Or.inr (wk G 72 rfl)) (by decide) (by decide) (by decide))))
  have E15 := (E10.wr W12)
  refine go_putF (pc' := 25) (wk G 73 rfl) Via.refl F14 E15 (Or.inr ⟨(wk G 74 rfl), rfl, hnm⟩) (wk G 62 rfl) (ty := (.object "java/lang/String")) (v' := o) (by decide) (nv_obj p6) (fv_obj p6) p2 (Or.inr rfl) (hb hby d6_22) rfl (fun h16 W17 => ?_)
  have F18 := Fld.same W17 F14
  refine go_aload_n (pc' := 26) (hb hby d6_25) rfl rfl rfl ?_
  refine go_aload (pc' := 28) (hb hby d6_26) rfl rfl p7 ?_
  have F19 := ((((p12.other W2 (Or.inr (slot_ne (t := (.object "com/example/bailiwick/bailiwick/resource/Grant")) (t' := (.object "java/lang/String")) (Or.inr (wk G 76 rfl)) (Or.inr (wk G 68 rfl)) (by decide) (by decide) (by decide)))).other W7 (Or.inr (slot_ne (t := (.object "com/example/bailiwick/bailiwick/resource/Grant")) (t' := (.object "java/lang/String")) (Or.inr (wk G 76 rfl)) (Or.inr (wk G 70 rfl)) (by decide) (by decide) (by decide)))).other W12 (Or.inr (slot_ne (t := (.object "com/example/bailiwick/bailiwick/resource/Grant")) (t' := .boolean) (Or.inr (wk G 76 rfl)) (Or.inr (wk G 72 rfl)) (by decide) (by decide) (by decide)))).other W17 (Or.inr (slot_ne (t := (.object "com/example/bailiwick/bailiwick/resource/Grant")) (t' := (.object "java/lang/String")) (Or.inr (wk G 76 rfl)) (Or.inr (wk G 74 rfl)) (by decide) (by decide) (by decide))))
  have E20 := (E15.wr W17)
  refine go_putF (pc' := 31) (wk G 75 rfl) Via.refl F19 E20 (Or.inr ⟨(wk G 76 rfl), rfl, hnm⟩) (wk G 62 rfl) (ty := (.object "com/example/bailiwick/bailiwick/resource/Grant")) (v' := g) (by decide) (nv_obj p7) (fv_obj p7) p2 (Or.inr rfl) (hb hby d6_28) rfl (fun h21 W22 => ?_)
  have F23 := Fld.same W22 F19
  have K24 : Keep h0 h1 [a] := ((Keep.refl h0 [a]).wr W2 (Or.inl (by simp)))
  have K25 : Keep h0 h6 [a] := (K24.wr W7 (Or.inl (by simp)))
  have K26 : Keep h0 h11 [a] := (K25.wr W12 (Or.inl (by simp)))
  have K27 : Keep h0 h16 [a] := (K26.wr W17 (Or.inl (by simp)))
  have K28 : Keep h0 h21 [a] := (K27.wr W22 (Or.inl (by simp)))
  have F29 := ((((F3.other W7 (Or.inr (slot_ne (t := (.object "java/lang/String")) (t' := (.object "java/lang/String")) (Or.inr (wk G 68 rfl)) (Or.inr (wk G 70 rfl)) (by decide) (by decide) (by decide)))).other W12 (Or.inr (slot_ne (t := (.object "java/lang/String")) (t' := .boolean) (Or.inr (wk G 68 rfl)) (Or.inr (wk G 72 rfl)) (by decide) (by decide) (by decide)))).other W17 (Or.inr (slot_ne (t := (.object "java/lang/String")) (t' := (.object "java/lang/String")) (Or.inr (wk G 68 rfl)) (Or.inr (wk G 74 rfl)) (by decide) (by decide) (by decide)))).other W22 (Or.inr (slot_ne (t := (.object "java/lang/String")) (t' := (.object "com/example/bailiwick/bailiwick/resource/Grant")) (Or.inr (wk G 68 rfl)) (Or.inr (wk G 76 rfl)) (by decide) (by decide) (by decide))))
  have F30 := (((F8.other W12 (Or.inr (slot_ne (t := (.object "java/lang/String")) (t' := .boolean) (Or.inr (wk G 70 rfl)) (Or.inr (wk G 72 rfl)) (by decide) (by decide) (by decide)))).other W17 (Or.inr (slot_ne (t := (.object "java/lang/String")) (t' := (.object "java/lang/String")) (Or.inr (wk G 70 rfl)) (Or.inr (wk G 74 rfl)) (by decide) (by decide) (by decide)))).other W22 (Or.inr (slot_ne (t := (.object "java/lang/String")) (t' := (.object "com/example/bailiwick/bailiwick/resource/Grant")) (Or.inr (wk G 70 rfl)) (Or.inr (wk G 76 rfl)) (by decide) (by decide) (by decide))))
  have F31 := ((F13.other W17 (Or.inr (slot_ne (t := .boolean) (t' := (.object "java/lang/String")) (Or.inr (wk G 72 rfl)) (Or.inr (wk G 74 rfl)) (by decide) (by decide) (by decide)))).other W22 (Or.inr (slot_ne (t := .boolean) (t' := (.object "com/example/bailiwick/bailiwick/resource/Grant")) (Or.inr (wk G 72 rfl)) (Or.inr (wk G 76 rfl)) (by decide) (by decide) (by decide))))
  have F32 := (F18.other W22 (Or.inr (slot_ne (t := (.object "java/lang/String")) (t' := (.object "com/example/bailiwick/bailiwick/resource/Grant")) (Or.inr (wk G 74 rfl)) (Or.inr (wk G 76 rfl)) (by decide) (by decide) (by decide))))
  refine go_return hret hlk (hb hby d6_31) (by decide) (by decide) ⟨rfl, ⟨F29, F30, F31, F32, F23⟩⟩ K28
theorem ef_getUser (m : MethodId) (a : Addr)  : entryFrame m #[(.ref a)] 1 = mkF m 0 #[.val (.ref a)] [] := by first | (simp [entryFrame, mkF, argsToLocals, Value.category]; done) | rfl
def Q_getUser (Z : State) (a : Addr) (u : Value) (h0 : Heap) (xv : Value) (h : Heap) : Prop := u = xv ∧ h0 = h
set_option maxRecDepth 65536 in
set_option maxHeartbeats 40000000 in
theorem c_getUser (l : Launch) {Z : State} {a0 : Array Value} (G : GH Z a0) (a : Addr) (u : Value) (h0 : Heap) (O0 : Old Z Z.heap.size h0) (p1 : Fld Z h0 a "com/example/bailiwick/bailiwick/policy/AccessExplanation" "user" "Ljava/lang/String;" u) (p2 : u.isRef = true) : Con false [] l Z (⟨"com/example/bailiwick/bailiwick/policy/AccessExplanation", "getUser", "()Ljava/lang/String;"⟩ : MethodName) prog_9_method_6_code 1 (some (.object "java/lang/String")) [] ({ frames := 0, cells := 0, slots := 0, locals := 0 } : Room) #[(.ref a)] h0 [] (rvl (Q_getUser Z a u h0)) := by
  refine con_of (a0 := a0) pn3 (fun q => rfl) EW.nil O0 (fun m => ef_getUser m a) ?_
  intro p_ e_ s_ m_ below_ meth_ c_ hby hml hret hlk hnm
  refine go_aload_n (pc' := 1) (hb hby d7_0) rfl rfl rfl ?_
  refine go_getF (pc' := 4) (wk G 67 rfl) Via.refl p1 (hb hby d7_1) rfl ?_
  refine go_areturn hret hlk rfl p2 (hb hby d7_4) (by decide) (by decide) ⟨_, rfl, ⟨rfl, rfl⟩⟩ (Keep.refl h0 [])
theorem ef_getPath (m : MethodId) (a : Addr)  : entryFrame m #[(.ref a)] 1 = mkF m 0 #[.val (.ref a)] [] := by first | (simp [entryFrame, mkF, argsToLocals, Value.category]; done) | rfl
def Q_getPath (Z : State) (a : Addr) (u : Value) (h0 : Heap) (xv : Value) (h : Heap) : Prop := u = xv ∧ h0 = h
set_option maxRecDepth 65536 in
set_option maxHeartbeats 40000000 in
theorem c_getPath (l : Launch) {Z : State} {a0 : Array Value} (G : GH Z a0) (a : Addr) (u : Value) (h0 : Heap) (O0 : Old Z Z.heap.size h0) (p1 : Fld Z h0 a "com/example/bailiwick/bailiwick/policy/AccessExplanation" "path" "Ljava/lang/String;" u) (p2 : u.isRef = true) : Con false [] l Z (⟨"com/example/bailiwick/bailiwick/policy/AccessExplanation", "getPath", "()Ljava/lang/String;"⟩ : MethodName) prog_9_method_7_code 1 (some (.object "java/lang/String")) [] ({ frames := 0, cells := 0, slots := 0, locals := 0 } : Room) #[(.ref a)] h0 [] (rvl (Q_getPath Z a u h0)) := by
  refine con_of (a0 := a0) pn3 (fun q => rfl) EW.nil O0 (fun m => ef_getPath m a) ?_
  intro p_ e_ s_ m_ below_ meth_ c_ hby hml hret hlk hnm
  refine go_aload_n (pc' := 1) (hb hby d8_0) rfl rfl rfl ?_
  refine go_getF (pc' := 4) (wk G 69 rfl) Via.refl p1 (hb hby d8_1) rfl ?_
  refine go_areturn hret hlk rfl p2 (hb hby d8_4) (by decide) (by decide) ⟨_, rfl, ⟨rfl, rfl⟩⟩ (Keep.refl h0 [])
theorem ef_getOwned (m : MethodId) (a : Addr)  : entryFrame m #[(.ref a)] 1 = mkF m 0 #[.val (.ref a)] [] := by first | (simp [entryFrame, mkF, argsToLocals, Value.category]; done) | rfl
def Q_getOwned (Z : State) (a : Addr) (u : Value) (h0 : Heap) (xv : Value) (h : Heap) : Prop := u = xv ∧ h0 = h
set_option maxRecDepth 65536 in
set_option maxHeartbeats 40000000 in
theorem c_getOwned (l : Launch) {Z : State} {a0 : Array Value} (G : GH Z a0) (a : Addr) (u : Value) (h0 : Heap) (O0 : Old Z Z.heap.size h0) (p1 : Fld Z h0 a "com/example/bailiwick/bailiwick/policy/AccessExplanation" "ownedPath" "Ljava/lang/String;" u) (p2 : u.isRef = true) : Con false [] l Z (⟨"com/example/bailiwick/bailiwick/policy/AccessExplanation", "getOwnedPath", "()Ljava/lang/String;"⟩ : MethodName) prog_9_method_9_code 1 (some (.object "java/lang/String")) [] ({ frames := 0, cells := 0, slots := 0, locals := 0 } : Room) #[(.ref a)] h0 [] (rvl (Q_getOwned Z a u h0)) := by
  refine con_of (a0 := a0) pn3 (fun q => rfl) EW.nil O0 (fun m => ef_getOwned m a) ?_
  intro p_ e_ s_ m_ below_ meth_ c_ hby hml hret hlk hnm
  refine go_aload_n (pc' := 1) (hb hby d9_0) rfl rfl rfl ?_
  refine go_getF (pc' := 4) (wk G 73 rfl) Via.refl p1 (hb hby d9_1) rfl ?_
  refine go_areturn hret hlk rfl p2 (hb hby d9_4) (by decide) (by decide) ⟨_, rfl, ⟨rfl, rfl⟩⟩ (Keep.refl h0 [])
theorem ef_isSuper (m : MethodId) (a : Addr)  : entryFrame m #[(.ref a)] 1 = mkF m 0 #[.val (.ref a)] [] := by first | (simp [entryFrame, mkF, argsToLocals, Value.category]; done) | rfl
def Q_isSuper (Z : State) (a : Addr) (u : Int32) (h0 : Heap) (xv : Value) (h : Heap) : Prop := (.int u) = xv ∧ h0 = h
set_option maxRecDepth 65536 in
set_option maxHeartbeats 40000000 in
theorem c_isSuper (l : Launch) {Z : State} {a0 : Array Value} (G : GH Z a0) (a : Addr) (u : Int32) (h0 : Heap) (O0 : Old Z Z.heap.size h0) (p1 : Fld Z h0 a "com/example/bailiwick/bailiwick/policy/AccessExplanation" "superuser" "Z" (.int u)) (p2 : narrow .boolean (.int u) = .int u ∧ fits .boolean (.int u) = true) : Con false [] l Z (⟨"com/example/bailiwick/bailiwick/policy/AccessExplanation", "isSuperuser", "()Z"⟩ : MethodName) prog_9_method_8_code 1 (some .boolean) [] ({ frames := 0, cells := 0, slots := 0, locals := 0 } : Room) #[(.ref a)] h0 [] (rvl (Q_isSuper Z a u h0)) := by
  refine con_of (a0 := a0) pn3 (fun q => rfl) EW.nil O0 (fun m => ef_isSuper m a) ?_
  intro p_ e_ s_ m_ below_ meth_ c_ hby hml hret hlk hnm
  refine go_aload_n (pc' := 1) (hb hby d10_0) rfl rfl rfl ?_
  refine go_getF (pc' := 4) (wk G 71 rfl) Via.refl p1 (hb hby d10_1) rfl ?_
  refine go_ireturn hret hlk p2.1 (by simp) (hb hby d10_4) (by decide) (by decide) ⟨_, rfl, ⟨rfl, rfl⟩⟩ (Keep.refl h0 [])
theorem ef_getGrant (m : MethodId) (a : Addr)  : entryFrame m #[(.ref a)] 1 = mkF m 0 #[.val (.ref a)] [] := by first | (simp [entryFrame, mkF, argsToLocals, Value.category]; done) | rfl
def Q_getGrant (Z : State) (a : Addr) (u : Value) (h0 : Heap) (xv : Value) (h : Heap) : Prop := u = xv ∧ h0 = h
set_option maxRecDepth 65536 in
set_option maxHeartbeats 40000000 in
theorem c_getGrant (l : Launch) {Z : State} {a0 : Array Value} (G : GH Z a0) (a : Addr) (u : Value) (h0 : Heap) (O0 : Old Z Z.heap.size h0) (p1 : Fld Z h0 a "com/example/bailiwick/bailiwick/policy/AccessExplanation" "grant" "Lcom/example/bailiwick/bailiwick/resource/Grant;" u) (p2 : u.isRef = true) : Con false [] l Z (⟨"com/example/bailiwick/bailiwick/policy/AccessExplanation", "getGrant", "()Lcom/example/bailiwick/bailiwick/resource/Grant;"⟩ : MethodName) prog_9_method_10_code 1 (some (.object "com/example/bailiwick/bailiwick/resource/Grant")) [] ({ frames := 0, cells := 0, slots := 0, locals := 0 } : Room) #[(.ref a)] h0 [] (rvl (Q_getGrant Z a u h0)) := by
  refine con_of (a0 := a0) pn3 (fun q => rfl) EW.nil O0 (fun m => ef_getGrant m a) ?_
  intro p_ e_ s_ m_ below_ meth_ c_ hby hml hret hlk hnm
  refine go_aload_n (pc' := 1) (hb hby d11_0) rfl rfl rfl ?_
  refine go_getF (pc' := 4) (wk G 75 rfl) Via.refl p1 (hb hby d11_1) rfl ?_
  refine go_areturn hret hlk rfl p2 (hb hby d11_4) (by decide) (by decide) ⟨_, rfl, ⟨rfl, rfl⟩⟩ (Keep.refl h0 [])
theorem ef_level (m : MethodId) (x : Int32)  : entryFrame m #[(.int x)] 1 = mkF m 0 #[.val (.int x)] [] := by first | (simp [entryFrame, mkF, argsToLocals, Value.category]; done) | rfl
def Q_level (Z : State) (x : Int32)  (h0 : Heap) (xv : Value) (h : Heap) : Prop := ∃ (r : Addr), (.ref r) = xv ∧ h0 = h
set_option maxRecDepth 65536 in
set_option maxHeartbeats 40000000 in
theorem c_level (l : Launch) {Z : State} {a0 : Array Value} (G : GH Z a0) (x : Int32)  (h0 : Heap) (O0 : Old Z Z.heap.size h0)  : Con false [] l Z (⟨"com/example/bailiwick/bailiwick/policy/AccessExplanationGrantedPinLaw", "level", "(I)Lcom/example/bailiwick/bailiwick/resource/AccessLevel;"⟩ : MethodName) method_2_code 1 (some (.object "com/example/bailiwick/bailiwick/resource/AccessLevel")) [] ({ frames := 0, cells := 0, slots := 0, locals := 0 } : Room) #[(.int x)] h0 [] (rvl (Q_level Z x h0)) := by
  refine con_of (a0 := a0) pn4 (fun q => rfl) EW.nil O0 (fun m => ef_level m x) ?_
  intro p_ e_ s_ m_ below_ meth_ c_ hby hml hret hlk hnm
  refine go_iload_n (pc' := 1) (hb hby d12_0) rfl rfl ?_
  by_cases c1 : x = (0 : Int32)
  · refine go_ifF (pc' := 4) (hb hby d12_1) rfl (XT.i0_ne_f c1) ?_
    refine go_getS (pc' := 7) (wk G 77 rfl) ((se_NONE G).1.ext O0.2) (hb hby d12_4) rfl ?_
    refine go_areturn hret hlk rfl rfl (hb hby d12_7) (by decide) (by decide) ⟨_, rfl, ⟨(s_NONE Z), rfl, rfl⟩⟩ (Keep.refl h0 [])
  · refine go_ifT (pc' := 8) (hb hby d12_1) (by decide) rfl (XT.i0_ne_t c1) ?_
    refine go_iload_n (pc' := 9) (hb hby d12_8) rfl rfl ?_
    refine go_iconst (pc' := 10) (v := 1) (hb hby d12_9) rfl rfl ?_
    by_cases c2 : x = (1 : Int32)
    · refine go_icF (pc' := 13) (hb hby d12_10) rfl (XT.ii_ne_f c2) ?_
      refine go_getS (pc' := 16) (wk G 34 rfl) ((se_READ G).1.ext O0.2) (hb hby d12_13) rfl ?_
      refine go_areturn hret hlk rfl rfl (hb hby d12_16) (by decide) (by decide) ⟨_, rfl, ⟨(s_READ Z), rfl, rfl⟩⟩ (Keep.refl h0 [])
    · refine go_icT (pc' := 17) (hb hby d12_10) (by decide) rfl (XT.ii_ne_t c2) ?_
      refine go_iload_n (pc' := 18) (hb hby d12_17) rfl rfl ?_
      refine go_iconst (pc' := 19) (v := 2) (hb hby d12_18) rfl rfl ?_
      by_cases c3 : x = (2 : Int32)
      · refine go_icF (pc' := 22) (hb hby d12_19) rfl (XT.ii_ne_f c3) ?_
        refine go_getS (pc' := 25) (wk G 115 rfl) ((se_WRITE G).1.ext O0.2) (hb hby d12_22) rfl ?_
        refine go_areturn hret hlk rfl rfl (hb hby d12_25) (by decide) (by decide) ⟨_, rfl, ⟨(s_WRITE Z), rfl, rfl⟩⟩ (Keep.refl h0 [])
      · refine go_icT (pc' := 26) (hb hby d12_19) (by decide) rfl (XT.ii_ne_t c3) ?_
        refine go_getS (pc' := 29) (wk G 139 rfl) ((se_ALL G).1.ext O0.2) (hb hby d12_26) rfl ?_
        refine go_areturn hret hlk rfl rfl (hb hby d12_29) (by decide) (by decide) ⟨_, rfl, ⟨(s_ALL Z), rfl, rfl⟩⟩ (Keep.refl h0 [])
theorem ef_kind (m : MethodId) (x : Int32)  : entryFrame m #[(.int x)] 1 = mkF m 0 #[.val (.int x)] [] := by first | (simp [entryFrame, mkF, argsToLocals, Value.category]; done) | rfl
def Q_kind (Z : State) (x : Int32)  (h0 : Heap) (xv : Value) (h : Heap) : Prop := ∃ (r : Addr), (.ref r) = xv
set_option maxRecDepth 65536 in
set_option maxHeartbeats 40000000 in
theorem c_kind (l : Launch) {Z : State} {a0 : Array Value} (G : GH Z a0) (x : Int32)  (h0 : Heap) (O0 : Old Z Z.heap.size h0)  : Con true EL1 l Z (⟨"com/example/bailiwick/bailiwick/policy/AccessExplanationGrantedPinLaw", "kind", "(I)Ljava/lang/String;"⟩ : MethodName) method_3_code 1 (some (.object "java/lang/String")) [] ({ frames := 0, cells := 2, slots := 24, locals := 0 } : Room) #[(.int x)] h0 [] (rvl (Q_kind Z x h0)) := by
  refine con_of (a0 := a0) pn4 (fun q => nomatch q) (ew1 G) O0 (fun m => ef_kind m x) ?_
  intro p_ e_ s_ m_ below_ meth_ c_ hby hml hret hlk hnm
  refine go_iload_n (pc' := 1) (hb hby d13_0) rfl rfl ?_
  by_cases c1 : x = (0 : Int32)
  · refine go_ifF (pc' := 4) (hb hby d13_1) rfl (XT.i0_ne_f c1) ?_
    refine go_ldcS (pc' := 6) (cells' := 2) (slots' := 20) (n := 16) rfl (wk G 40 rfl) (wS G) (by decide) (by decide) (hb hby d13_4) rfl rfl rfl (by decide) (by decide) (fun h2 a3 X4 => ?_)
    have K5 : Keep h0 h2 [] := ((Keep.refl h0 []).ext X4)
    refine go_areturn hret hlk rfl rfl (hb hby d13_6) (by decide) (by decide) ⟨_, rfl, ⟨a3, rfl⟩⟩ K5
  · refine go_ifT (pc' := 7) (hb hby d13_1) (by decide) rfl (XT.i0_ne_t c1) ?_
    refine go_iload_n (pc' := 8) (hb hby d13_7) rfl rfl ?_
    refine go_iconst (pc' := 9) (v := 1) (hb hby d13_8) rfl rfl ?_
    by_cases c6 : x = (1 : Int32)
    · refine go_icF (pc' := 12) (hb hby d13_9) rfl (XT.ii_ne_f c6) ?_
      refine go_ldcS (pc' := 14) (cells' := 2) (slots' := 20) (n := 16) rfl (wk G 117 rfl) (wS G) (by decide) (by decide) (hb hby d13_12) rfl rfl rfl (by decide) (by decide) (fun h7 a8 X9 => ?_)
      have K10 : Keep h0 h7 [] := ((Keep.refl h0 []).ext X9)
      refine go_areturn hret hlk rfl rfl (hb hby d13_14) (by decide) (by decide) ⟨_, rfl, ⟨a8, rfl⟩⟩ K10
    · refine go_icT (pc' := 15) (hb hby d13_9) (by decide) rfl (XT.ii_ne_t c6) ?_
      refine go_ldcS (pc' := 17) (cells' := 2) (slots' := 24) (n := 20) rfl (wk G 138 rfl) (wS G) (by decide) (by decide) (hb hby d13_15) rfl rfl rfl (by decide) (by decide) (fun h11 a12 X13 => ?_)
      have K14 : Keep h0 h11 [] := ((Keep.refl h0 []).ext X13)
      refine go_areturn hret hlk rfl rfl (hb hby d13_17) (by decide) (by decide) ⟨_, rfl, ⟨a12, rfl⟩⟩ K14
theorem ef_grinit (m : MethodId) (a : Addr) (k : Addr) (n : Addr) (q : Addr) (lv : Addr)  : entryFrame m #[(.ref a), (.ref k), (.ref n), (.ref q), (.ref lv)] 5 = mkF m 0 #[.val (.ref a), .val (.ref k), .val (.ref n), .val (.ref q), .val (.ref lv)] [] := by first | (simp [entryFrame, mkF, argsToLocals, Value.category]; done) | rfl
def Q_grinit (Z : State) (a : Addr) (k : Addr) (n : Addr) (q : Addr) (lv : Addr)  (h0 : Heap) (h : Heap) : Prop := Fld Z h a "com/example/bailiwick/bailiwick/resource/Grant" "kind" "Ljava/lang/String;" (.ref k) ∧ Fld Z h a "com/example/bailiwick/bailiwick/resource/Grant" "name" "Ljava/lang/String;" (.ref n) ∧ Fld Z h a "com/example/bailiwick/bailiwick/resource/Grant" "path" "Ljava/lang/String;" (.ref q) ∧ Fld Z h a "com/example/bailiwick/bailiwick/resource/Grant" "level" "Lcom/example/bailiwick/bailiwick/resource/AccessLevel;" (.ref lv)
set_option maxRecDepth 65536 in
set_option maxHeartbeats 40000000 in
theorem c_grinit (l : Launch) {Z : State} {a0 : Array Value} (G : GH Z a0) (a : Addr) (k : Addr) (n : Addr) (q : Addr) (lv : Addr)  (h0 : Heap) (O0 : Old Z Z.heap.size h0) (p1 : Exa Z h0 a "com/example/bailiwick/bailiwick/resource/Grant") (p2 : Z.heap.size ≤ a) (p3 : Fld Z h0 a "com/example/bailiwick/bailiwick/resource/Grant" "kind" "Ljava/lang/String;" .null) (p4 : Fld Z h0 a "com/example/bailiwick/bailiwick/resource/Grant" "name" "Ljava/lang/String;" .null) (p5 : Fld Z h0 a "com/example/bailiwick/bailiwick/resource/Grant" "path" "Ljava/lang/String;" .null) (p6 : Fld Z h0 a "com/example/bailiwick/bailiwick/resource/Grant" "level" "Lcom/example/bailiwick/bailiwick/resource/AccessLevel;" .null) : Con false [] l Z (⟨"com/example/bailiwick/bailiwick/resource/Grant", "<init>", "(Ljava/lang/String;Ljava/lang/String;Ljava/lang/String;Lcom/example/bailiwick/bailiwick/resource/AccessLevel;)V"⟩ : MethodName) prog_17_method_1_code 5 none [] ({ frames := 1, cells := 0, slots := 0, locals := 12 } : Room) #[(.ref a), (.ref k), (.ref n), (.ref q), (.ref lv)] h0 [a] (rno (Q_grinit Z a k n q lv h0)) := by
  refine con_of (a0 := a0) pn5 (fun q => rfl) EW.nil O0 (fun m => ef_grinit m a k n q lv) ?_
  intro p_ e_ s_ m_ below_ meth_ c_ hby hml hret hlk hnm
  refine go_aload_n (pc' := 1) (hb hby d14_0) rfl rfl rfl ?_
  refine go_initO (pc' := 4) (Wd := 0) (wk G 124 rfl) (wk G 12 rfl) (wk G 13 rfl) (by rw [hml]; rfl) (by decide) (by decide) (by decide) (hb hby d14_1) rfl ?_
  refine go_aload_n (pc' := 5) (hb hby d14_4) rfl rfl rfl ?_
  refine go_aload_n (pc' := 6) (hb hby d14_5) rfl rfl rfl ?_
  refine go_putF (pc' := 9) (wk G 125 rfl) Via.refl p3 p1 (Or.inr ⟨(wk G 126 rfl), rfl, hnm⟩) (wk G 119 rfl) (ty := (.object "java/lang/String")) (v' := (.ref k)) (by decide) rfl rfl p2 (Or.inr rfl) (hb hby d14_6) rfl (fun h1 W2 => ?_)
  have F3 := Fld.same W2 p3
  refine go_aload_n (pc' := 10) (hb hby d14_9) rfl rfl rfl ?_
  refine go_aload_n (pc' := 11) (hb hby d14_10) rfl rfl rfl ?_
  have F4 := (p4.other W2 (Or.inr (slot_ne (t := (.object "java/lang/String")) (t' := (.object "java/lang/String")) (Or.inr (wk G 128 rfl)) (Or.inr (wk G 126 rfl)) (by decide) (by decide) (by decide))))
  have E5 := (p1.wr W2)
  refine go_putF (pc' := 14) (wk G 127 rfl) Via.refl F4 E5 (Or.inr ⟨(wk G 128 rfl), rfl, hnm⟩) (wk G 119 rfl) (ty := (.object "java/lang/String")) (v' := (.ref n)) (by decide) rfl rfl p2 (Or.inr rfl) (hb hby d14_11) rfl (fun h6 W7 => ?_)
  have F8 := Fld.same W7 F4
  refine go_aload_n (pc' := 15) (hb hby d14_14) rfl rfl rfl ?_
  refine go_aload_n (pc' := 16) (hb hby d14_15) rfl rfl rfl ?_
  have F9 := ((p5.other W2 (Or.inr (slot_ne (t := (.object "java/lang/String")) (t' := (.object "java/lang/String")) (Or.inr (wk G 130 rfl)) (Or.inr (wk G 126 rfl)) (by decide) (by decide) (by decide)))).other W7 (Or.inr (slot_ne (t := (.object "java/lang/String")) (t' := (.object "java/lang/String")) (Or.inr (wk G 130 rfl)) (Or.inr (wk G 128 rfl)) (by decide) (by decide) (by decide))))
  have E10 := (E5.wr W7)
  refine go_putF (pc' := 19) (wk G 129 rfl) Via.refl F9 E10 (Or.inr ⟨(wk G 130 rfl), rfl, hnm⟩) (wk G 119 rfl) (ty := (.object "java/lang/String")) (v' := (.ref q)) (by decide) rfl rfl p2 (Or.inr rfl) (hb hby d14_16) rfl (fun h11 W12 => ?_)
  have F13 := Fld.same W12 F9
  refine go_aload_n (pc' := 20) (hb hby d14_19) rfl rfl rfl ?_
  refine go_aload (pc' := 22) (hb hby d14_20) rfl rfl rfl ?_
  have F14 := (((p6.other W2 (Or.inr (slot_ne (t := (.object "com/example/bailiwick/bailiwick/resource/AccessLevel")) (t' := (.object "java/lang/String")) (Or.inr (wk G 132 rfl)) (Or.inr (wk G 126 rfl)) (by decide) (by decide) (by decide)))).other W7 (Or.inr (slot_ne (t := (.object "com/example/bailiwick/bailiwick/resource/AccessLevel")) (t' := (.object "java/lang/String")) (Or.inr (wk G 132 rfl)) (Or.inr (wk G 128 rfl)) (by decide) (by decide) (by decide)))).other W12 (Or.inr (slot_ne (t := (.object "com/example/bailiwick/bailiwick/resource/AccessLevel")) (t' := (.object "java/lang/String")) (Or.inr (wk G 132 rfl)) (Or.inr (wk G 130 rfl)) (by decide) (by decide) (by decide))))
  have E15 := (E10.wr W12)
  refine go_putF (pc' := 25) (wk G 131 rfl) Via.refl F14 E15 (Or.inr ⟨(wk G 132 rfl), rfl, hnm⟩) (wk G 119 rfl) (ty := (.object "com/example/bailiwick/bailiwick/resource/AccessLevel")) (v' := (.ref lv)) (by decide) rfl rfl p2 (Or.inr rfl) (hb hby d14_22) rfl (fun h16 W17 => ?_)
  have F18 := Fld.same W17 F14
  have K19 : Keep h0 h1 [a] := ((Keep.refl h0 [a]).wr W2 (Or.inl (by simp)))
  have K20 : Keep h0 h6 [a] := (K19.wr W7 (Or.inl (by simp)))
  have K21 : Keep h0 h11 [a] := (K20.wr W12 (Or.inl (by simp)))
  have K22 : Keep h0 h16 [a] := (K21.wr W17 (Or.inl (by simp)))
  have F23 := (((F3.other W7 (Or.inr (slot_ne (t := (.object "java/lang/String")) (t' := (.object "java/lang/String")) (Or.inr (wk G 126 rfl)) (Or.inr (wk G 128 rfl)) (by decide) (by decide) (by decide)))).other W12 (Or.inr (slot_ne (t := (.object "java/lang/String")) (t' := (.object "java/lang/String")) (Or.inr (wk G 126 rfl)) (Or.inr (wk G 130 rfl)) (by decide) (by decide) (by decide)))).other W17 (Or.inr (slot_ne (t := (.object "java/lang/String")) (t' := (.object "com/example/bailiwick/bailiwick/resource/AccessLevel")) (Or.inr (wk G 126 rfl)) (Or.inr (wk G 132 rfl)) (by decide) (by decide) (by decide))))
  have F24 := ((F8.other W12 (Or.inr (slot_ne (t := (.object "java/lang/String")) (t' := (.object "java/lang/String")) (Or.inr (wk G 128 rfl)) (Or.inr (wk G 130 rfl)) (by decide) (by decide) (by decide)))).other W17 (Or.inr (slot_ne (t := (.object "java/lang/String")) (t' := (.object "com/example/bailiwick/bailiwick/resource/AccessLevel")) (Or.inr (wk G 128 rfl)) (Or.inr (wk G 132 rfl)) (by decide) (by decide) (by decide))))
  have F25 := (F13.other W17 (Or.inr (slot_ne (t := (.object "java/lang/String")) (t' := (.object "com/example/bailiwick/bailiwick/resource/AccessLevel")) (Or.inr (wk G 130 rfl)) (Or.inr (wk G 132 rfl)) (by decide) (by decide) (by decide))))
  refine go_return hret hlk (hb hby d14_25) (by decide) (by decide) ⟨rfl, ⟨F23, F24, F25, F18⟩⟩ K22
theorem ef_grLevel (m : MethodId) (a : Addr)  : entryFrame m #[(.ref a)] 1 = mkF m 0 #[.val (.ref a)] [] := by first | (simp [entryFrame, mkF, argsToLocals, Value.category]; done) | rfl
def Q_grLevel (Z : State) (a : Addr) (u : Addr) (h0 : Heap) (xv : Value) (h : Heap) : Prop := (.ref u) = xv ∧ h0 = h
set_option maxRecDepth 65536 in
set_option maxHeartbeats 40000000 in
theorem c_grLevel (l : Launch) {Z : State} {a0 : Array Value} (G : GH Z a0) (a : Addr) (u : Addr) (h0 : Heap) (O0 : Old Z Z.heap.size h0) (p1 : Fld Z h0 a "com/example/bailiwick/bailiwick/resource/Grant" "level" "Lcom/example/bailiwick/bailiwick/resource/AccessLevel;" (.ref u)) : Con false [] l Z (⟨"com/example/bailiwick/bailiwick/resource/Grant", "getLevel", "()Lcom/example/bailiwick/bailiwick/resource/AccessLevel;"⟩ : MethodName) prog_17_method_8_code 1 (some (.object "com/example/bailiwick/bailiwick/resource/AccessLevel")) [] ({ frames := 0, cells := 0, slots := 0, locals := 0 } : Room) #[(.ref a)] h0 [] (rvl (Q_grLevel Z a u h0)) := by
  refine con_of (a0 := a0) pn5 (fun q => rfl) EW.nil O0 (fun m => ef_grLevel m a) ?_
  intro p_ e_ s_ m_ below_ meth_ c_ hby hml hret hlk hnm
  refine go_aload_n (pc' := 1) (hb hby d15_0) rfl rfl rfl ?_
  refine go_getF (pc' := 4) (wk G 131 rfl) Via.refl p1 (hb hby d15_1) rfl ?_
  refine go_areturn hret hlk rfl rfl (hb hby d15_4) (by decide) (by decide) ⟨_, rfl, ⟨rfl, rfl⟩⟩ (Keep.refl h0 [])
set_option maxHeartbeats 4000000 in
theorem ef_granted (m : MethodId) (u : Value) (q : Value) (g : Value) (hc_u : u.isRef = true) (hc_q : q.isRef = true) (hc_g : g.isRef = true) : entryFrame m #[u, q, g] 3 = mkF m 0 #[.val u, .val q, .val g] [] := by rcases XT.refc hc_u with rfl | ⟨_, rfl⟩ <;> rcases XT.refc hc_q with rfl | ⟨_, rfl⟩ <;> rcases XT.refc hc_g with rfl | ⟨_, rfl⟩ <;> first | (simp [entryFrame, mkF, argsToLocals, Value.category]; done) | rfl
def Q_granted (Z : State) (u : Value) (q : Value) (g : Value)  (h0 : Heap) (xv : Value) (h : Heap) : Prop := ∃ (r : Addr), (.ref r) = xv ∧ h0.size ≤ r ∧ Exa Z h r "com/example/bailiwick/bailiwick/policy/AccessExplanation" ∧ Fld Z h r "com/example/bailiwick/bailiwick/policy/AccessExplanation" "user" "Ljava/lang/String;" u ∧ Fld Z h r "com/example/bailiwick/bailiwick/policy/AccessExplanation" "path" "Ljava/lang/String;" q ∧ Fld Z h r "com/example/bailiwick/bailiwick/policy/AccessExplanation" "superuser" "Z" (.int (0 : Int32)) ∧ Fld Z h r "com/example/bailiwick/bailiwick/policy/AccessExplanation" "ownedPath" "Ljava/lang/String;" .null ∧ Fld Z h r "com/example/bailiwick/bailiwick/policy/AccessExplanation" "grant" "Lcom/example/bailiwick/bailiwick/resource/Grant;" g
set_option maxRecDepth 65536 in
set_option maxHeartbeats 40000000 in
theorem c_granted (l : Launch) {Z : State} {a0 : Array Value} (G : GH Z a0) (u : Value) (q : Value) (g : Value)  (h0 : Heap) (O0 : Old Z Z.heap.size h0) (p1 : u.isRef = true) (p2 : q.isRef = true) (p3 : g.isRef = true) : Con false [] l Z (⟨"com/example/bailiwick/bailiwick/policy/AccessExplanation", "granted", "(Ljava/lang/String;Ljava/lang/String;Lcom/example/bailiwick/bailiwick/resource/Grant;)Lcom/example/bailiwick/bailiwick/policy/AccessExplanation;"⟩ : MethodName) prog_9_method_4_code 3 (some (.object "com/example/bailiwick/bailiwick/policy/AccessExplanation")) [] ({ frames := 2, cells := 1, slots := 5, locals := 30 } : Room) #[u, q, g] h0 [] (rvl (Q_granted Z u q g h0)) := by
  refine con_of (a0 := a0) pn3 (fun q => rfl) EW.nil O0 (fun m => ef_granted m u q g p1 p2 p3) ?_
  intro p_ e_ s_ m_ below_ meth_ c_ hby hml hret hlk hnm
  refine go_newO (pc' := 3) (cells' := 1) (slots' := 5) (wk G 61 rfl) (wk G 62 rfl) (wk G 59 rfl) (hb hby d16_0) rfl rfl rfl (by decide) (by decide) (fun h1 a2 g3 X4 E5 D6 U7 => ?_)
  refine go_dup (pc' := 4) (hb hby d16_3) rfl rfl ?_
  refine go_aload_n (pc' := 5) (hb hby d16_4) rfl rfl p1 ?_
  refine go_aload_n (pc' := 6) (hb hby d16_5) rfl rfl p2 ?_
  refine go_iconst (pc' := 7) (v := 0) (hb hby d16_6) rfl rfl ?_
  refine go_aconst_null (pc' := 8) (hb hby d16_7) rfl ?_
  refine go_aload_n (pc' := 9) (hb hby d16_8) rfl rfl p3 ?_
  have F8 := D6 (Or.inr (wk G 68 rfl)) (ty := (.object "java/lang/String")) (by decide)
  have F9 := D6 (Or.inr (wk G 70 rfl)) (ty := (.object "java/lang/String")) (by decide)
  have F10 := D6 (Or.inr (wk G 72 rfl)) (ty := .boolean) (by decide)
  have F11 := D6 (Or.inr (wk G 74 rfl)) (ty := (.object "java/lang/String")) (by decide)
  have F12 := D6 (Or.inr (wk G 76 rfl)) (ty := (.object "com/example/bailiwick/bailiwick/resource/Grant")) (by decide)
  refine go_old (fun O13 => ?_)
  refine callI0 (cells' := 1) (slots' := 5) (Wd := 1) (argsL := [u, q, (.int (0 : Int32)), .null, g]) (rest := [(.ref a2)]) (pay_of (a0 := a0) (c_aeinit l G a2 u q (0 : Int32) .null g h1 O13 E5 (Nat.le_trans O0.2.1 (Nat.le_of_eq g3)) (⟨rfl, by decide⟩) p1 p2 rfl p3 F8 F9 F10 F11 F12) (wk G 65 rfl) (wk G 59 rfl) (by decide) (by decide)) rfl (wk G 63 rfl) (wk G 64 rfl) (wk G 65 rfl) (by decide) pd4 rfl rfl (by rw [hml]; rfl) (Nat.le_of_ble_eq_true rfl) rfl rfl (by decide) (by decide) (allS (Nat.le_trans O0.2.1 (Nat.le_of_eq g3)) all0) (fun _ hal => (sfS safe_nil sf0)) (hb hby d16_9) (k_n (pc' := 12) rfl ?_)
  rintro  h14 ⟨f16, f17, f18, f19, f20⟩ K15
  have K21 : Keep h0 h1 [] := ((Keep.refl h0 []).ext X4)
  have K22 : Keep h0 h14 [] := (K21.trans K15 (allS (Or.inr (Nat.le_of_eq g3)) all0))
  have E23 := (E5.keep K15)
  refine go_areturn hret hlk rfl rfl (hb hby d16_12) (by decide) (by decide) ⟨_, rfl, ⟨a2, rfl, (Nat.le_of_eq g3), E23, f16, f17, f18, f19, f20⟩⟩ K22
theorem ef_getLevelN (m : MethodId) (a : Addr)  : entryFrame m #[(.ref a)] 2 = mkF m 0 #[.val (.ref a), .unset] [] := by first | (simp [entryFrame, mkF, argsToLocals, Value.category]; done) | rfl
def Q_getLevelN (Z : State) (a : Addr)  (h0 : Heap) (xv : Value) (h : Heap) : Prop := (.ref (s_NONE Z)) = xv ∧ h0 = h
set_option maxRecDepth 65536 in
set_option maxHeartbeats 40000000 in
theorem c_getLevelN (l : Launch) {Z : State} {a0 : Array Value} (G : GH Z a0) (a : Addr)  (h0 : Heap) (O0 : Old Z Z.heap.size h0) (p1 : Fld Z h0 a "com/example/bailiwick/bailiwick/policy/AccessExplanation" "superuser" "Z" (.int (0 : Int32))) (p2 : Fld Z h0 a "com/example/bailiwick/bailiwick/policy/AccessExplanation" "ownedPath" "Ljava/lang/String;" .null) (p3 : Fld Z h0 a "com/example/bailiwick/bailiwick/policy/AccessExplanation" "grant" "Lcom/example/bailiwick/bailiwick/resource/Grant;" .null) : Con false [] l Z (⟨"com/example/bailiwick/bailiwick/policy/AccessExplanation", "getLevel", "()Lcom/example/bailiwick/bailiwick/resource/AccessLevel;"⟩ : MethodName) prog_9_method_5_code 2 (some (.object "com/example/bailiwick/bailiwick/resource/AccessLevel")) [] ({ frames := 0, cells := 0, slots := 0, locals := 0 } : Room) #[(.ref a)] h0 [] (rvl (Q_getLevelN Z a h0)) := by
  refine con_of (a0 := a0) pn3 (fun q => rfl) EW.nil O0 (fun m => ef_getLevelN m a) ?_
  intro p_ e_ s_ m_ below_ meth_ c_ hby hml hret hlk hnm
  refine go_aload_n (pc' := 1) (hb hby d17_0) rfl rfl rfl ?_
  refine go_getF (pc' := 4) (wk G 71 rfl) Via.refl p1 (hb hby d17_1) rfl ?_
  refine go_ifF (pc' := 7) (hb hby d17_4) rfl (by decide) ?_
  refine go_aload_n (pc' := 8) (hb hby d17_7) rfl rfl rfl ?_
  refine go_getF (pc' := 11) (wk G 73 rfl) Via.refl p2 (hb hby d17_8) rfl ?_
  refine go_nullT (pc' := 21) (hb hby d17_11) (by decide) rfl ?_
  refine go_aload_n (pc' := 22) (hb hby d17_21) rfl rfl rfl ?_
  refine go_getF (pc' := 25) (wk G 75 rfl) Via.refl p3 (hb hby d17_22) rfl ?_
  refine go_nullT (pc' := 39) (hb hby d17_25) (by decide) rfl ?_
  refine go_getS (pc' := 42) (wk G 114 rfl) ((se_NONE G).1.ext O0.2) (hb hby d17_39) rfl ?_
  refine go_astore_n (pc' := 43) (ls' := #[.val (.ref a), .val (.ref (s_NONE Z))]) (hb hby d17_42) rfl rfl rfl ?_
  refine go_aload_n (pc' := 44) (hb hby d17_43) rfl rfl rfl ?_
  refine go_areturn hret hlk rfl rfl (hb hby d17_44) (by decide) (by decide) ⟨_, rfl, ⟨rfl, rfl⟩⟩ (Keep.refl h0 [])
theorem ef_getLevelG (m : MethodId) (a : Addr)  : entryFrame m #[(.ref a)] 2 = mkF m 0 #[.val (.ref a), .unset] [] := by first | (simp [entryFrame, mkF, argsToLocals, Value.category]; done) | rfl
def Q_getLevelG (Z : State) (a : Addr) (g : Addr) (lv : Addr) (h0 : Heap) (xv : Value) (h : Heap) : Prop := (.ref lv) = xv ∧ h0 = h
set_option maxRecDepth 65536 in
set_option maxHeartbeats 40000000 in
theorem c_getLevelG (l : Launch) {Z : State} {a0 : Array Value} (G : GH Z a0) (a : Addr) (g : Addr) (lv : Addr) (h0 : Heap) (O0 : Old Z Z.heap.size h0) (p1 : Fld Z h0 a "com/example/bailiwick/bailiwick/policy/AccessExplanation" "superuser" "Z" (.int (0 : Int32))) (p2 : Fld Z h0 a "com/example/bailiwick/bailiwick/policy/AccessExplanation" "ownedPath" "Ljava/lang/String;" .null) (p3 : Fld Z h0 a "com/example/bailiwick/bailiwick/policy/AccessExplanation" "grant" "Lcom/example/bailiwick/bailiwick/resource/Grant;" (.ref g)) (p4 : Exa Z h0 g "com/example/bailiwick/bailiwick/resource/Grant") (p5 : Fld Z h0 g "com/example/bailiwick/bailiwick/resource/Grant" "level" "Lcom/example/bailiwick/bailiwick/resource/AccessLevel;" (.ref lv)) : Con false [] l Z (⟨"com/example/bailiwick/bailiwick/policy/AccessExplanation", "getLevel", "()Lcom/example/bailiwick/bailiwick/resource/AccessLevel;"⟩ : MethodName) prog_9_method_5_code 2 (some (.object "com/example/bailiwick/bailiwick/resource/AccessLevel")) [] ({ frames := 1, cells := 0, slots := 0, locals := 12 } : Room) #[(.ref a)] h0 [] (rvl (Q_getLevelG Z a g lv h0)) := by
  refine con_of (a0 := a0) pn3 (fun q => rfl) EW.nil O0 (fun m => ef_getLevelG m a) ?_
  intro p_ e_ s_ m_ below_ meth_ c_ hby hml hret hlk hnm
  refine go_aload_n (pc' := 1) (hb hby d17_0) rfl rfl rfl ?_
  refine go_getF (pc' := 4) (wk G 71 rfl) Via.refl p1 (hb hby d17_1) rfl ?_
  refine go_ifF (pc' := 7) (hb hby d17_4) rfl (by decide) ?_
  refine go_aload_n (pc' := 8) (hb hby d17_7) rfl rfl rfl ?_
  refine go_getF (pc' := 11) (wk G 73 rfl) Via.refl p2 (hb hby d17_8) rfl ?_
  refine go_nullT (pc' := 21) (hb hby d17_11) (by decide) rfl ?_
  refine go_aload_n (pc' := 22) (hb hby d17_21) rfl rfl rfl ?_
  refine go_getF (pc' := 25) (wk G 75 rfl) Via.refl p3 (hb hby d17_22) rfl ?_
  refine go_nullF (pc' := 28) (hb hby d17_25) rfl ?_
  refine go_aload_n (pc' := 29) (hb hby d17_28) rfl rfl rfl ?_
  refine go_getF (pc' := 32) (wk G 75 rfl) Via.refl p3 (hb hby d17_29) rfl ?_
  refine callV0 (cells' := 0) (slots' := 0) (Wd := 0) (argsL := []) (rest := []) (pay_of (a0 := a0) (c_grLevel l G g lv h0 O0 p5) (wk G 137 rfl) (wk G 120 rfl) (by decide) (by decide)) p4 (wk G 133 rfl) (wk G 134 rfl) (wk G 136 rfl) (wk G 136 rfl) (wk G 135 rfl) (by decide) pd5 rfl rfl (by rw [hml]; rfl) (Nat.le_of_ble_eq_true rfl) rfl rfl (by decide) (by decide) all0 (fun _ _ => sf0) (hb hby d17_32) (k_v (pc' := 35) rfl ?_)
  rintro _ h1 ⟨rfl, rfl⟩ K2
  refine go_astore_n (pc' := 36) (ls' := #[.val (.ref a), .val (.ref lv)]) (hb hby d17_35) rfl rfl rfl ?_
  refine go_goto (pc' := 43) (hb hby d17_36) (by decide) rfl ?_
  refine go_aload_n (pc' := 44) (hb hby d17_43) rfl rfl rfl ?_
  refine go_areturn hret hlk rfl rfl (hb hby d17_44) (by decide) (by decide) ⟨_, rfl, ⟨rfl, rfl⟩⟩ (Keep.refl h0 [])
theorem ef_law (m : MethodId) (x0 : Int32) (x1 : Int32) (x2 : Int32) (x3 : Int32)  : entryFrame m #[(.int x0), (.int x1), (.int x2), (.int x3)] maxLocals = mkF m 0 #[.val (.int x0), .val (.int x1), .val (.int x2), .val (.int x3), .unset, .unset, .unset, .unset, .unset, .unset, .unset, .unset, .unset, .unset, .unset, .unset] [] := by first | (simp [entryFrame, mkF, argsToLocals, Value.category, maxLocals]; done) | rfl
def Q_law (Z : State) (x0 : Int32) (x1 : Int32) (x2 : Int32) (x3 : Int32)  (h0 : Heap) (xv : Value) (h : Heap) : Prop := (.int (1 : Int32)) = xv
set_option maxRecDepth 65536 in
set_option maxHeartbeats 40000000 in
theorem c_law (l : Launch) {Z : State} {a0 : Array Value} (G : GH Z a0) (x0 : Int32) (x1 : Int32) (x2 : Int32) (x3 : Int32)  (h0 : Heap) (O0 : Old Z Z.heap.size h0)  : Con true EL1 l Z x code maxLocals ret tables_1 room_1 #[(.int x0), (.int x1), (.int x2), (.int x3)] h0 [] (rvl (Q_law Z x0 x1 x2 x3 h0)) := by
  refine con_of (a0 := a0) pn4 (fun q => nomatch q) (ew1 G) O0 (fun m => ef_law m x0 x1 x2 x3) ?_
  intro p_ e_ s_ m_ below_ meth_ c_ hby hml hret hlk hnm
  refine go_iconst (pc' := 1) (v := 2) (hb hby at_0) rfl rfl ?_
  refine go_newP (pc' := 3) (cells' := 1) (slots' := 2) (cap := 2) (vs := [(.int (0 : Int32)), (.int (0 : Int32))]) (ty := .char) (dv := .int 0) (wk G 0 rfl) rfl rfl (hb hby at_1) rfl (by decide) rfl (by decide) rfl rfl rfl (by decide) (by decide) (fun h1 a2 k6 g3 X4 A5 => ?_)
  refine go_astore (pc' := 5) (ls' := #[.val (.int x0), .val (.int x1), .val (.int x2), .val (.int x3), .val (.ref a2), .unset, .unset, .unset, .unset, .unset, .unset, .unset, .unset, .unset, .unset, .unset]) (hb hby at_3) rfl rfl rfl ?_
  refine go_aload (pc' := 7) (hb hby at_5) rfl rfl rfl ?_
  refine go_iconst (pc' := 8) (v := 0) (hb hby at_7) rfl rfl ?_
  refine go_iload_n (pc' := 9) (hb hby at_8) rfl rfl ?_
  refine go_sipush (pc' := 12) (v := 255) (hb hby at_9) rfl rfl ?_
  refine go_iand (pc' := 13) (z := (x0 &&& (255 : Int32))) (hb hby at_12) rfl rfl ?_
  refine go_i2c (pc' := 14) (z := (x0 &&& (255 : Int32))) (hb hby at_13) rfl (i2c_mask _) ?_
  refine go_stC (pc' := 15) (i := 0) (x' := (x0 &&& (255 : Int32))) (vs' := [(.int (x0 &&& (255 : Int32))), (.int (0 : Int32))]) A5 (Nat.le_trans O0.2.1 (Nat.le_of_eq g3)) (by decide) (by decide) rfl (Nat.le_of_ble_eq_true rfl) (i2c_mask _) rfl (hb hby at_14) rfl (fun h7 W8 A9 => ?_)
  refine go_aload (pc' := 17) (hb hby at_15) rfl rfl rfl ?_
  refine go_iconst (pc' := 18) (v := 1) (hb hby at_17) rfl rfl ?_
  refine go_iload_n (pc' := 19) (hb hby at_18) rfl rfl ?_
  refine go_bipush (pc' := 21) (v := 8) (hb hby at_19) rfl rfl ?_
  refine go_iushr (pc' := 22) (z := (XT.ushr x0 (8 : Int32))) (hb hby at_21) rfl rfl ?_
  refine go_sipush (pc' := 25) (v := 255) (hb hby at_22) rfl rfl ?_
  refine go_iand (pc' := 26) (z := ((XT.ushr x0 (8 : Int32)) &&& (255 : Int32))) (hb hby at_25) rfl rfl ?_
  refine go_i2c (pc' := 27) (z := ((XT.ushr x0 (8 : Int32)) &&& (255 : Int32))) (hb hby at_26) rfl (i2c_mask _) ?_
  refine go_stC (pc' := 28) (i := 1) (x' := ((XT.ushr x0 (8 : Int32)) &&& (255 : Int32))) (vs' := [(.int (x0 &&& (255 : Int32))), (.int ((XT.ushr x0 (8 : Int32)) &&& (255 : Int32)))]) A9 (Nat.le_trans O0.2.1 (Nat.le_of_eq g3)) (by decide) (by decide) rfl (Nat.le_of_ble_eq_true rfl) (i2c_mask _) rfl (hb hby at_27) rfl (fun h10 W11 A12 => ?_)
  refine go_newO (pc' := 31) (cells' := 2) (slots' := 6) (wk G 1 rfl) (wk G 2 rfl) (wk G 3 rfl) (hb hby at_28) rfl rfl rfl (by decide) (by decide) (fun h13 a14 g15 X16 E17 D18 U19 => ?_)
  refine go_dup (pc' := 32) (hb hby at_31) rfl rfl ?_
  refine go_aload (pc' := 34) (hb hby at_32) rfl rfl rfl ?_
  have F20 := D18 (Or.inr (wk G 29 rfl)) (ty := (.array .byte)) (by decide)
  have F21 := D18 (Or.inr (wk G 27 rfl)) (ty := .byte) (by decide)
  have K22 : Keep h10 h13 [] := ((Keep.refl h10 []).ext X16)
  have A23 := (A12.keep K22 nin0)
  refine go_old (fun O24 => ?_)
  have K25 : Keep h0 h1 [] := ((Keep.refl h0 []).ext X4)
  have K26 : Keep h0 h7 [] := (K25.wr W8 (Or.inr (Nat.le_of_eq g3)))
  have K27 : Keep h0 h10 [] := (K26.wr W11 (Or.inr (Nat.le_of_eq g3)))
  refine callI0 (cells' := 3) (slots' := 8) (Wd := 1) (argsL := [(.ref a2)]) (rest := [(.ref a14)]) (pay_new G O24 (cs := [(x0 &&& (255 : Int32)), ((XT.ushr x0 (8 : Int32)) &&& (255 : Int32))]) (n := 2) (Nat.le_trans O0.2.1 (Nat.le_trans K27.1 (Nat.le_of_eq g15))) E17 F20 F21 A23 rfl rfl (by decide) (by decide) (c8c (c8_m _) (c8c (c8_m _) c8n)) (by decide) (by decide)) rfl (wk G 4 rfl) (wk G 5 rfl) (wk G 6 rfl) (by decide) pd6 rfl rfl (by rw [hml]; rfl) (Nat.le_of_ble_eq_true rfl) rfl rfl (by decide) (by decide) (allS (Nat.le_trans O0.2.1 (Nat.le_trans K27.1 (Nat.le_of_eq g15))) all0) (fun _ hal => (sfS (safe_null hal E17 F20) sf0)) (hb hby at_34) (k_n (pc' := 37) rfl ?_)
  rintro h28 S30 K29
  refine go_astore (pc' := 39) (ls' := #[.val (.int x0), .val (.int x1), .val (.int x2), .val (.int x3), .val (.ref a2), .val (.ref a14), .unset, .unset, .unset, .unset, .unset, .unset, .unset, .unset, .unset, .unset]) (hb hby at_37) rfl rfl rfl ?_
  refine go_iconst (pc' := 40) (v := 2) (hb hby at_39) rfl rfl ?_
  refine go_newP (pc' := 42) (cells' := 4) (slots' := 10) (cap := 2) (vs := [(.int (0 : Int32)), (.int (0 : Int32))]) (ty := .char) (dv := .int 0) (wk G 0 rfl) rfl rfl (hb hby at_40) rfl (by decide) rfl (by decide) rfl rfl rfl (by decide) (by decide) (fun h31 a32 k36 g33 X34 A35 => ?_)
  refine go_astore (pc' := 44) (ls' := #[.val (.int x0), .val (.int x1), .val (.int x2), .val (.int x3), .val (.ref a2), .val (.ref a14), .val (.ref a32), .unset, .unset, .unset, .unset, .unset, .unset, .unset, .unset, .unset]) (hb hby at_42) rfl rfl rfl ?_
  refine go_aload (pc' := 46) (hb hby at_44) rfl rfl rfl ?_
  refine go_iconst (pc' := 47) (v := 0) (hb hby at_46) rfl rfl ?_
  refine go_iload_n (pc' := 48) (hb hby at_47) rfl rfl ?_
  refine go_sipush (pc' := 51) (v := 255) (hb hby at_48) rfl rfl ?_
  refine go_iand (pc' := 52) (z := (x1 &&& (255 : Int32))) (hb hby at_51) rfl rfl ?_
  refine go_i2c (pc' := 53) (z := (x1 &&& (255 : Int32))) (hb hby at_52) rfl (i2c_mask _) ?_
  have K40 : Keep h0 h13 [] := (K27.ext X16)
  have K41 : Keep h0 h28 [] := (K40.trans K29 (allS (Or.inr (Nat.le_trans K27.1 (Nat.le_of_eq g15))) all0))
  refine go_stC (pc' := 54) (i := 0) (x' := (x1 &&& (255 : Int32))) (vs' := [(.int (x1 &&& (255 : Int32))), (.int (0 : Int32))]) A35 (Nat.le_trans O0.2.1 (Nat.le_trans K41.1 (Nat.le_of_eq g33))) (by decide) (by decide) rfl (Nat.le_of_ble_eq_true rfl) (i2c_mask _) rfl (hb hby at_53) rfl (fun h37 W38 A39 => ?_)
  refine go_aload (pc' := 56) (hb hby at_54) rfl rfl rfl ?_
  refine go_iconst (pc' := 57) (v := 1) (hb hby at_56) rfl rfl ?_
  refine go_iload_n (pc' := 58) (hb hby at_57) rfl rfl ?_
  refine go_bipush (pc' := 60) (v := 8) (hb hby at_58) rfl rfl ?_
  refine go_iushr (pc' := 61) (z := (XT.ushr x1 (8 : Int32))) (hb hby at_60) rfl rfl ?_
  refine go_sipush (pc' := 64) (v := 255) (hb hby at_61) rfl rfl ?_
  refine go_iand (pc' := 65) (z := ((XT.ushr x1 (8 : Int32)) &&& (255 : Int32))) (hb hby at_64) rfl rfl ?_
  refine go_i2c (pc' := 66) (z := ((XT.ushr x1 (8 : Int32)) &&& (255 : Int32))) (hb hby at_65) rfl (i2c_mask _) ?_
  refine go_stC (pc' := 67) (i := 1) (x' := ((XT.ushr x1 (8 : Int32)) &&& (255 : Int32))) (vs' := [(.int (x1 &&& (255 : Int32))), (.int ((XT.ushr x1 (8 : Int32)) &&& (255 : Int32)))]) A39 (Nat.le_trans O0.2.1 (Nat.le_trans K41.1 (Nat.le_of_eq g33))) (by decide) (by decide) rfl (Nat.le_of_ble_eq_true rfl) (i2c_mask _) rfl (hb hby at_66) rfl (fun h42 W43 A44 => ?_)
  refine go_newO (pc' := 70) (cells' := 5) (slots' := 14) (wk G 1 rfl) (wk G 2 rfl) (wk G 3 rfl) (hb hby at_67) rfl rfl rfl (by decide) (by decide) (fun h45 a46 g47 X48 E49 D50 U51 => ?_)
  refine go_dup (pc' := 71) (hb hby at_70) rfl rfl ?_
  refine go_aload (pc' := 73) (hb hby at_71) rfl rfl rfl ?_
  have F52 := D50 (Or.inr (wk G 29 rfl)) (ty := (.array .byte)) (by decide)
  have F53 := D50 (Or.inr (wk G 27 rfl)) (ty := .byte) (by decide)
  have K54 : Keep h42 h45 [] := ((Keep.refl h42 []).ext X48)
  have A55 := (A44.keep K54 nin0)
  refine go_old (fun O56 => ?_)
  have K57 : Keep h0 h31 [] := (K41.ext X34)
  have K58 : Keep h0 h37 [] := (K57.wr W38 (Or.inr (Nat.le_trans K41.1 (Nat.le_of_eq g33))))
  have K59 : Keep h0 h42 [] := (K58.wr W43 (Or.inr (Nat.le_trans K41.1 (Nat.le_of_eq g33))))
  refine callI0 (cells' := 6) (slots' := 16) (Wd := 1) (argsL := [(.ref a32)]) (rest := [(.ref a46)]) (pay_new G O56 (cs := [(x1 &&& (255 : Int32)), ((XT.ushr x1 (8 : Int32)) &&& (255 : Int32))]) (n := 2) (Nat.le_trans O0.2.1 (Nat.le_trans K59.1 (Nat.le_of_eq g47))) E49 F52 F53 A55 rfl rfl (by decide) (by decide) (c8c (c8_m _) (c8c (c8_m _) c8n)) (by decide) (by decide)) rfl (wk G 4 rfl) (wk G 5 rfl) (wk G 6 rfl) (by decide) pd6 rfl rfl (by rw [hml]; rfl) (Nat.le_of_ble_eq_true rfl) rfl rfl (by decide) (by decide) (allS (Nat.le_trans O0.2.1 (Nat.le_trans K59.1 (Nat.le_of_eq g47))) all0) (fun _ hal => (sfS (safe_null hal E49 F52) sf0)) (hb hby at_73) (k_n (pc' := 76) rfl ?_)
  rintro h60 S62 K61
  refine go_astore (pc' := 78) (ls' := #[.val (.int x0), .val (.int x1), .val (.int x2), .val (.int x3), .val (.ref a2), .val (.ref a14), .val (.ref a32), .val (.ref a46), .unset, .unset, .unset, .unset, .unset, .unset, .unset, .unset]) (hb hby at_76) rfl rfl rfl ?_
  refine go_iload_n (pc' := 79) (hb hby at_78) rfl rfl ?_
  refine go_iconst (pc' := 80) (v := 3) (hb hby at_79) rfl rfl ?_
  refine go_iand (pc' := 81) (z := (x3 &&& (3 : Int32))) (hb hby at_80) rfl rfl ?_
  refine go_old (fun O63 => ?_)
  refine callS0 (cells' := 6) (slots' := 16) (Wd := 0) (argsL := [(.int (x3 &&& (3 : Int32)))]) (rest := []) (pay_of (a0 := a0) (c_level l G (x3 &&& (3 : Int32)) h60 O63 ) (wk G 33 rfl) (wk G 32 rfl) (by decide) (by decide)) (wk G 30 rfl) (wk G 31 rfl) (wk G 32 rfl) (wk G 33 rfl) (by decide) pd7 rfl rfl (by rw [hml]; rfl) (Nat.le_of_ble_eq_true rfl) rfl rfl (by decide) (by decide) all0 (fun _ _ => sf0) (hb hby at_81) (k_v (pc' := 84) rfl ?_)
  rintro _ h64 ⟨r66, rfl, rfl⟩ K65
  refine go_astore (pc' := 86) (ls' := #[.val (.int x0), .val (.int x1), .val (.int x2), .val (.int x3), .val (.ref a2), .val (.ref a14), .val (.ref a32), .val (.ref a46), .val (.ref r66), .unset, .unset, .unset, .unset, .unset, .unset, .unset]) (hb hby at_84) rfl rfl rfl ?_
  refine go_iload_n (pc' := 87) (hb hby at_86) rfl rfl ?_
  refine go_iconst (pc' := 88) (v := 4) (hb hby at_87) rfl rfl ?_
  refine go_iand (pc' := 89) (z := (x3 &&& (4 : Int32))) (hb hby at_88) rfl rfl ?_
  by_cases c67 : (x3 &&& (4 : Int32)) = (0 : Int32)
  · refine go_ifT (pc' := 96) (hb hby at_89) (by decide) rfl (XT.i0_eq_t c67) ?_
    refine go_iconst (pc' := 97) (v := 0) (hb hby at_96) rfl rfl ?_
    refine go_istore (pc' := 99) (ls' := #[.val (.int x0), .val (.int x1), .val (.int x2), .val (.int x3), .val (.ref a2), .val (.ref a14), .val (.ref a32), .val (.ref a46), .val (.ref r66), .val (.int (0 : Int32)), .unset, .unset, .unset, .unset, .unset, .unset]) (hb hby at_97) rfl rfl ?_
    refine go_iload_n (pc' := 100) (hb hby at_99) rfl rfl ?_
    refine go_iconst (pc' := 101) (v := 3) (hb hby at_100) rfl rfl ?_
    refine go_iushr (pc' := 102) (z := (XT.ushr x3 (3 : Int32))) (hb hby at_101) rfl rfl ?_
    refine go_iconst (pc' := 103) (v := 3) (hb hby at_102) rfl rfl ?_
    refine go_iand (pc' := 104) (z := ((XT.ushr x3 (3 : Int32)) &&& (3 : Int32))) (hb hby at_103) rfl rfl ?_
    refine callSW0 rfl (cells' := 8) (slots' := 40) (Wd := 0) (argsL := [(.int ((XT.ushr x3 (3 : Int32)) &&& (3 : Int32)))]) (rest := []) (payW_of (a0 := a0) (c_kind l G ((XT.ushr x3 (3 : Int32)) &&& (3 : Int32)) h60 O63 ) (wk G 39 rfl) (wk G 32 rfl) (by decide) (by decide) (ew1 G)) (wk G 37 rfl) (wk G 38 rfl) (wk G 32 rfl) (wk G 39 rfl) (by decide) pd8 rfl rfl (by rw [hml]; rfl) (Nat.le_of_ble_eq_true rfl) rfl rfl (by decide) (by decide) all0 (hb hby at_104) (k_v (pc' := 107) rfl ?_)
    rintro _ h68 ⟨r70, rfl⟩ K69
    refine go_astore (pc' := 109) (ls' := #[.val (.int x0), .val (.int x1), .val (.int x2), .val (.int x3), .val (.ref a2), .val (.ref a14), .val (.ref a32), .val (.ref a46), .val (.ref r66), .val (.int (0 : Int32)), .val (.ref r70), .unset, .unset, .unset, .unset, .unset]) (hb hby at_107) rfl rfl rfl ?_
    refine go_iload_n (pc' := 110) (hb hby at_109) rfl rfl ?_
    refine go_sipush (pc' := 113) (v := 255) (hb hby at_110) rfl rfl ?_
    refine go_iand (pc' := 114) (z := (x2 &&& (255 : Int32))) (hb hby at_113) rfl rfl ?_
    refine go_i2c (pc' := 115) (z := (x2 &&& (255 : Int32))) (hb hby at_114) rfl (i2c_mask _) ?_
    refine go_old (fun O71 => ?_)
    refine callS0 (cells' := 10) (slots' := 45) (Wd := 0) (argsL := [(.int (x2 &&& (255 : Int32)))]) (rest := []) (pay_of (a0 := a0) (c_valueof l G (x2 &&& (255 : Int32)) h68 O71 (c8_m _)) (wk G 45 rfl) (wk G 3 rfl) (by decide) (by decide)) (wk G 43 rfl) (wk G 44 rfl) (wk G 3 rfl) (wk G 45 rfl) (by decide) pd9 rfl rfl (by rw [hml]; rfl) (Nat.le_of_ble_eq_true rfl) rfl rfl (by decide) (by decide) all0 (fun _ _ => sf0) (hb hby at_115) (k_v (pc' := 118) rfl ?_)
    rintro _ h72 ⟨r74, rfl, f75, f76⟩ K73
    refine go_astore (pc' := 120) (ls' := #[.val (.int x0), .val (.int x1), .val (.int x2), .val (.int x3), .val (.ref a2), .val (.ref a14), .val (.ref a32), .val (.ref a46), .val (.ref r66), .val (.int (0 : Int32)), .val (.ref r70), .val (.ref r74), .unset, .unset, .unset, .unset]) (hb hby at_118) rfl rfl rfl ?_
    refine go_iload_n (pc' := 121) (hb hby at_120) rfl rfl ?_
    refine go_bipush (pc' := 123) (v := 8) (hb hby at_121) rfl rfl ?_
    refine go_iushr (pc' := 124) (z := (XT.ushr x2 (8 : Int32))) (hb hby at_123) rfl rfl ?_
    refine go_sipush (pc' := 127) (v := 255) (hb hby at_124) rfl rfl ?_
    refine go_iand (pc' := 128) (z := ((XT.ushr x2 (8 : Int32)) &&& (255 : Int32))) (hb hby at_127) rfl rfl ?_
    refine go_i2c (pc' := 129) (z := ((XT.ushr x2 (8 : Int32)) &&& (255 : Int32))) (hb hby at_128) rfl (i2c_mask _) ?_
    refine go_old (fun O77 => ?_)
    refine callS0 (cells' := 12) (slots' := 50) (Wd := 0) (argsL := [(.int ((XT.ushr x2 (8 : Int32)) &&& (255 : Int32)))]) (rest := []) (pay_of (a0 := a0) (c_valueof l G ((XT.ushr x2 (8 : Int32)) &&& (255 : Int32)) h72 O77 (c8_m _)) (wk G 45 rfl) (wk G 3 rfl) (by decide) (by decide)) (wk G 43 rfl) (wk G 44 rfl) (wk G 3 rfl) (wk G 45 rfl) (by decide) pd9 rfl rfl (by rw [hml]; rfl) (Nat.le_of_ble_eq_true rfl) rfl rfl (by decide) (by decide) all0 (fun _ _ => sf0) (hb hby at_129) (k_v (pc' := 132) rfl ?_)
    rintro _ h78 ⟨r80, rfl, f81, f82⟩ K79
    refine go_astore (pc' := 134) (ls' := #[.val (.int x0), .val (.int x1), .val (.int x2), .val (.int x3), .val (.ref a2), .val (.ref a14), .val (.ref a32), .val (.ref a46), .val (.ref r66), .val (.int (0 : Int32)), .val (.ref r70), .val (.ref r74), .val (.ref r80), .unset, .unset, .unset]) (hb hby at_132) rfl rfl rfl ?_
    refine go_iload (pc' := 136) (hb hby at_134) rfl rfl ?_
    refine go_ifT (pc' := 157) (hb hby at_136) (by decide) rfl (by decide) ?_
    refine go_aconst_null (pc' := 158) (hb hby at_157) rfl ?_
    refine go_astore (pc' := 160) (ls' := #[.val (.int x0), .val (.int x1), .val (.int x2), .val (.int x3), .val (.ref a2), .val (.ref a14), .val (.ref a32), .val (.ref a46), .val (.ref r66), .val (.int (0 : Int32)), .val (.ref r70), .val (.ref r74), .val (.ref r80), .val .null, .unset, .unset]) (hb hby at_158) rfl rfl rfl ?_
    refine go_aload (pc' := 162) (hb hby at_160) rfl rfl rfl ?_
    refine go_aload (pc' := 164) (hb hby at_162) rfl rfl rfl ?_
    refine go_aload (pc' := 166) (hb hby at_164) rfl rfl rfl ?_
    refine go_old (fun O83 => ?_)
    refine callS0 (cells' := 13) (slots' := 55) (Wd := 0) (argsL := [(.ref a14), (.ref a46), .null]) (rest := []) (pay_of (a0 := a0) (c_granted l G (.ref a14) (.ref a46) .null h78 O83 rfl rfl rfl) (wk G 60 rfl) (wk G 59 rfl) (by decide) (by decide)) (wk G 57 rfl) (wk G 58 rfl) (wk G 59 rfl) (wk G 60 rfl) (by decide) pd10 rfl rfl (by rw [hml]; rfl) (Nat.le_of_ble_eq_true rfl) rfl rfl (by decide) (by decide) all0 (fun _ _ => sf0) (hb hby at_166) (k_v (pc' := 169) rfl ?_)
    rintro _ h84 ⟨r86, rfl, f87, f88, f89, f90, f91, f92, f93⟩ K85
    refine go_astore (pc' := 171) (ls' := #[.val (.int x0), .val (.int x1), .val (.int x2), .val (.int x3), .val (.ref a2), .val (.ref a14), .val (.ref a32), .val (.ref a46), .val (.ref r66), .val (.int (0 : Int32)), .val (.ref r70), .val (.ref r74), .val (.ref r80), .val .null, .val (.ref r86), .unset]) (hb hby at_169) rfl rfl rfl ?_
    refine go_iload (pc' := 173) (hb hby at_171) rfl rfl ?_
    refine go_ifT (pc' := 181) (hb hby at_173) (by decide) rfl (by decide) ?_
    refine go_old (fun O94 => ?_)
    refine go_getS (pc' := 184) (wk G 77 rfl) ((se_NONE G).1.ext O94.2) (hb hby at_181) rfl ?_
    refine go_astore (pc' := 186) (ls' := #[.val (.int x0), .val (.int x1), .val (.int x2), .val (.int x3), .val (.ref a2), .val (.ref a14), .val (.ref a32), .val (.ref a46), .val (.ref r66), .val (.int (0 : Int32)), .val (.ref r70), .val (.ref r74), .val (.ref r80), .val .null, .val (.ref r86), .val (.ref (s_NONE Z))]) (hb hby at_184) rfl rfl rfl ?_
    refine go_aload (pc' := 188) (hb hby at_186) rfl rfl rfl ?_
    refine go_aload (pc' := 190) (hb hby at_188) rfl rfl rfl ?_
    refine callV0 (cells' := 13) (slots' := 55) (Wd := 1) (argsL := []) (rest := [(.ref a14)]) (pay_of (a0 := a0) (c_getUser l G r86 (.ref a14) h84 O94 f89 rfl) (wk G 83 rfl) (wk G 59 rfl) (by decide) (by decide)) f88 (wk G 79 rfl) (wk G 80 rfl) (wk G 82 rfl) (wk G 82 rfl) (wk G 81 rfl) (by decide) pd11 rfl rfl (by rw [hml]; rfl) (Nat.le_of_ble_eq_true rfl) rfl rfl (by decide) (by decide) all0 (fun _ _ => sf0) (hb hby at_190) (k_v (pc' := 193) rfl ?_)
    rintro _ h95 ⟨rfl, rfl⟩ K96
    have E97 := ((((((((((E17.keep K29).ext X34).wr W38).wr W43).ext X48).keep K61).keep K69).keep K73).keep K79).keep K85)
    refine callV0 (cells' := 13) (slots' := 55) (Wd := 0) (argsL := [(.ref a14)]) (rest := []) (pay_of (a0 := a0) (c_eqsame l G a14 h84 O94 ) (wk G 88 rfl) (wk G 3 rfl) (by decide) (by decide)) E97 (wk G 84 rfl) (wk G 85 rfl) (wk G 87 rfl) (wk G 87 rfl) (wk G 86 rfl) (by decide) pd12 rfl rfl (by rw [hml]; rfl) (Nat.le_of_ble_eq_true rfl) rfl rfl (by decide) (by decide) all0 (fun _ _ => sf0) (hb hby at_193) (k_v (pc' := 196) rfl ?_)
    rintro _ h98 ⟨rfl, rfl⟩ K99
    refine go_ifF (pc' := 199) (hb hby at_196) rfl (by decide) ?_
    refine go_aload (pc' := 201) (hb hby at_199) rfl rfl rfl ?_
    refine go_aload (pc' := 203) (hb hby at_201) rfl rfl rfl ?_
    refine callV0 (cells' := 13) (slots' := 55) (Wd := 1) (argsL := []) (rest := [(.ref a46)]) (pay_of (a0 := a0) (c_getPath l G r86 (.ref a46) h84 O94 f90 rfl) (wk G 93 rfl) (wk G 59 rfl) (by decide) (by decide)) f88 (wk G 89 rfl) (wk G 90 rfl) (wk G 92 rfl) (wk G 92 rfl) (wk G 91 rfl) (by decide) pd11 rfl rfl (by rw [hml]; rfl) (Nat.le_of_ble_eq_true rfl) rfl rfl (by decide) (by decide) all0 (fun _ _ => sf0) (hb hby at_203) (k_v (pc' := 206) rfl ?_)
    rintro _ h100 ⟨rfl, rfl⟩ K101
    have E102 := (((((E49.keep K61).keep K69).keep K73).keep K79).keep K85)
    refine callV0 (cells' := 13) (slots' := 55) (Wd := 0) (argsL := [(.ref a46)]) (rest := []) (pay_of (a0 := a0) (c_eqsame l G a46 h84 O94 ) (wk G 88 rfl) (wk G 3 rfl) (by decide) (by decide)) E102 (wk G 84 rfl) (wk G 85 rfl) (wk G 87 rfl) (wk G 87 rfl) (wk G 86 rfl) (by decide) pd12 rfl rfl (by rw [hml]; rfl) (Nat.le_of_ble_eq_true rfl) rfl rfl (by decide) (by decide) all0 (fun _ _ => sf0) (hb hby at_206) (k_v (pc' := 209) rfl ?_)
    rintro _ h103 ⟨rfl, rfl⟩ K104
    refine go_ifF (pc' := 212) (hb hby at_209) rfl (by decide) ?_
    refine go_aload (pc' := 214) (hb hby at_212) rfl rfl rfl ?_
    refine callV0 (cells' := 13) (slots' := 55) (Wd := 0) (argsL := []) (rest := []) (pay_of (a0 := a0) (c_isSuper l G r86 (0 : Int32) h84 O94 f91 (⟨rfl, by decide⟩)) (wk G 98 rfl) (wk G 59 rfl) (by decide) (by decide)) f88 (wk G 94 rfl) (wk G 95 rfl) (wk G 97 rfl) (wk G 97 rfl) (wk G 96 rfl) (by decide) pd13 rfl rfl (by rw [hml]; rfl) (Nat.le_of_ble_eq_true rfl) rfl rfl (by decide) (by decide) all0 (fun _ _ => sf0) (hb hby at_214) (k_v (pc' := 217) rfl ?_)
    rintro _ h105 ⟨rfl, rfl⟩ K106
    refine go_ifF (pc' := 220) (hb hby at_217) rfl (by decide) ?_
    refine go_aload (pc' := 222) (hb hby at_220) rfl rfl rfl ?_
    refine callV0 (cells' := 13) (slots' := 55) (Wd := 0) (argsL := []) (rest := []) (pay_of (a0 := a0) (c_getOwned l G r86 .null h84 O94 f92 rfl) (wk G 103 rfl) (wk G 59 rfl) (by decide) (by decide)) f88 (wk G 99 rfl) (wk G 100 rfl) (wk G 102 rfl) (wk G 102 rfl) (wk G 101 rfl) (by decide) pd11 rfl rfl (by rw [hml]; rfl) (Nat.le_of_ble_eq_true rfl) rfl rfl (by decide) (by decide) all0 (fun _ _ => sf0) (hb hby at_222) (k_v (pc' := 225) rfl ?_)
    rintro _ h107 ⟨rfl, rfl⟩ K108
    refine go_nnF (pc' := 228) (hb hby at_225) rfl ?_
    refine go_aload (pc' := 230) (hb hby at_228) rfl rfl rfl ?_
    refine callV0 (cells' := 13) (slots' := 55) (Wd := 0) (argsL := []) (rest := []) (pay_of (a0 := a0) (c_getGrant l G r86 .null h84 O94 f93 rfl) (wk G 108 rfl) (wk G 59 rfl) (by decide) (by decide)) f88 (wk G 104 rfl) (wk G 105 rfl) (wk G 107 rfl) (wk G 107 rfl) (wk G 106 rfl) (by decide) pd14 rfl rfl (by rw [hml]; rfl) (Nat.le_of_ble_eq_true rfl) rfl rfl (by decide) (by decide) all0 (fun _ _ => sf0) (hb hby at_230) (k_v (pc' := 233) rfl ?_)
    rintro _ h109 ⟨rfl, rfl⟩ K110
    refine go_aload (pc' := 235) (hb hby at_233) rfl rfl rfl ?_
    refine go_acF (pc' := 238) (hb hby at_235) rfl rfl rfl (XT.aa_ne_f rfl) ?_
    refine go_aload (pc' := 240) (hb hby at_238) rfl rfl rfl ?_
    refine callV0 (cells' := 13) (slots' := 55) (Wd := 0) (argsL := []) (rest := []) (pay_of (a0 := a0) (c_getLevelN l G r86 h84 O94 f91 f92 f93) (wk G 113 rfl) (wk G 59 rfl) (by decide) (by decide)) f88 (wk G 109 rfl) (wk G 110 rfl) (wk G 112 rfl) (wk G 112 rfl) (wk G 111 rfl) (by decide) pd5 rfl rfl (by rw [hml]; rfl) (Nat.le_of_ble_eq_true rfl) rfl rfl (by decide) (by decide) all0 (fun _ _ => sf0) (hb hby at_240) (k_v (pc' := 243) rfl ?_)
    rintro _ h111 ⟨rfl, rfl⟩ K112
    refine go_aload (pc' := 245) (hb hby at_243) rfl rfl rfl ?_
    refine go_acF (pc' := 248) (hb hby at_245) rfl rfl rfl (XT.aa_ne_f rfl) ?_
    refine go_iconst (pc' := 249) (v := 1) (hb hby at_248) rfl rfl ?_
    refine go_goto (pc' := 253) (hb hby at_249) (by decide) rfl ?_
    have K113 : Keep h0 h45 [] := (K59.ext X48)
    have K114 : Keep h0 h60 [] := (K113.trans K61 (allS (Or.inr (Nat.le_trans K59.1 (Nat.le_of_eq g47))) all0))
    have K115 : Keep h0 h68 [] := (K114.trans K69 all0)
    have K116 : Keep h0 h72 [] := (K115.trans K73 all0)
    have K117 : Keep h0 h78 [] := (K116.trans K79 all0)
    have K118 : Keep h0 h84 [] := (K117.trans K85 all0)
    refine go_ireturn hret hlk rfl (by simp) (hb hby at_253) (by decide) (by decide) ⟨_, rfl, rfl⟩ K118
  · refine go_ifF (pc' := 92) (hb hby at_89) rfl (XT.i0_eq_f c67) ?_
    refine go_iconst (pc' := 93) (v := 1) (hb hby at_92) rfl rfl ?_
    refine go_goto (pc' := 97) (hb hby at_93) (by decide) rfl ?_
    refine go_istore (pc' := 99) (ls' := #[.val (.int x0), .val (.int x1), .val (.int x2), .val (.int x3), .val (.ref a2), .val (.ref a14), .val (.ref a32), .val (.ref a46), .val (.ref r66), .val (.int (1 : Int32)), .unset, .unset, .unset, .unset, .unset, .unset]) (hb hby at_97) rfl rfl ?_
    refine go_iload_n (pc' := 100) (hb hby at_99) rfl rfl ?_
    refine go_iconst (pc' := 101) (v := 3) (hb hby at_100) rfl rfl ?_
    refine go_iushr (pc' := 102) (z := (XT.ushr x3 (3 : Int32))) (hb hby at_101) rfl rfl ?_
    refine go_iconst (pc' := 103) (v := 3) (hb hby at_102) rfl rfl ?_
    refine go_iand (pc' := 104) (z := ((XT.ushr x3 (3 : Int32)) &&& (3 : Int32))) (hb hby at_103) rfl rfl ?_
    refine callSW0 rfl (cells' := 8) (slots' := 40) (Wd := 0) (argsL := [(.int ((XT.ushr x3 (3 : Int32)) &&& (3 : Int32)))]) (rest := []) (payW_of (a0 := a0) (c_kind l G ((XT.ushr x3 (3 : Int32)) &&& (3 : Int32)) h60 O63 ) (wk G 39 rfl) (wk G 32 rfl) (by decide) (by decide) (ew1 G)) (wk G 37 rfl) (wk G 38 rfl) (wk G 32 rfl) (wk G 39 rfl) (by decide) pd8 rfl rfl (by rw [hml]; rfl) (Nat.le_of_ble_eq_true rfl) rfl rfl (by decide) (by decide) all0 (hb hby at_104) (k_v (pc' := 107) rfl ?_)
    rintro _ h119 ⟨r121, rfl⟩ K120
    refine go_astore (pc' := 109) (ls' := #[.val (.int x0), .val (.int x1), .val (.int x2), .val (.int x3), .val (.ref a2), .val (.ref a14), .val (.ref a32), .val (.ref a46), .val (.ref r66), .val (.int (1 : Int32)), .val (.ref r121), .unset, .unset, .unset, .unset, .unset]) (hb hby at_107) rfl rfl rfl ?_
    refine go_iload_n (pc' := 110) (hb hby at_109) rfl rfl ?_
    refine go_sipush (pc' := 113) (v := 255) (hb hby at_110) rfl rfl ?_
    refine go_iand (pc' := 114) (z := (x2 &&& (255 : Int32))) (hb hby at_113) rfl rfl ?_
    refine go_i2c (pc' := 115) (z := (x2 &&& (255 : Int32))) (hb hby at_114) rfl (i2c_mask _) ?_
    refine go_old (fun O122 => ?_)
    refine callS0 (cells' := 10) (slots' := 45) (Wd := 0) (argsL := [(.int (x2 &&& (255 : Int32)))]) (rest := []) (pay_of (a0 := a0) (c_valueof l G (x2 &&& (255 : Int32)) h119 O122 (c8_m _)) (wk G 45 rfl) (wk G 3 rfl) (by decide) (by decide)) (wk G 43 rfl) (wk G 44 rfl) (wk G 3 rfl) (wk G 45 rfl) (by decide) pd9 rfl rfl (by rw [hml]; rfl) (Nat.le_of_ble_eq_true rfl) rfl rfl (by decide) (by decide) all0 (fun _ _ => sf0) (hb hby at_115) (k_v (pc' := 118) rfl ?_)
    rintro _ h123 ⟨r125, rfl, f126, f127⟩ K124
    refine go_astore (pc' := 120) (ls' := #[.val (.int x0), .val (.int x1), .val (.int x2), .val (.int x3), .val (.ref a2), .val (.ref a14), .val (.ref a32), .val (.ref a46), .val (.ref r66), .val (.int (1 : Int32)), .val (.ref r121), .val (.ref r125), .unset, .unset, .unset, .unset]) (hb hby at_118) rfl rfl rfl ?_
    refine go_iload_n (pc' := 121) (hb hby at_120) rfl rfl ?_
    refine go_bipush (pc' := 123) (v := 8) (hb hby at_121) rfl rfl ?_
    refine go_iushr (pc' := 124) (z := (XT.ushr x2 (8 : Int32))) (hb hby at_123) rfl rfl ?_
    refine go_sipush (pc' := 127) (v := 255) (hb hby at_124) rfl rfl ?_
    refine go_iand (pc' := 128) (z := ((XT.ushr x2 (8 : Int32)) &&& (255 : Int32))) (hb hby at_127) rfl rfl ?_
    refine go_i2c (pc' := 129) (z := ((XT.ushr x2 (8 : Int32)) &&& (255 : Int32))) (hb hby at_128) rfl (i2c_mask _) ?_
    refine go_old (fun O128 => ?_)
    refine callS0 (cells' := 12) (slots' := 50) (Wd := 0) (argsL := [(.int ((XT.ushr x2 (8 : Int32)) &&& (255 : Int32)))]) (rest := []) (pay_of (a0 := a0) (c_valueof l G ((XT.ushr x2 (8 : Int32)) &&& (255 : Int32)) h123 O128 (c8_m _)) (wk G 45 rfl) (wk G 3 rfl) (by decide) (by decide)) (wk G 43 rfl) (wk G 44 rfl) (wk G 3 rfl) (wk G 45 rfl) (by decide) pd9 rfl rfl (by rw [hml]; rfl) (Nat.le_of_ble_eq_true rfl) rfl rfl (by decide) (by decide) all0 (fun _ _ => sf0) (hb hby at_129) (k_v (pc' := 132) rfl ?_)
    rintro _ h129 ⟨r131, rfl, f132, f133⟩ K130
    refine go_astore (pc' := 134) (ls' := #[.val (.int x0), .val (.int x1), .val (.int x2), .val (.int x3), .val (.ref a2), .val (.ref a14), .val (.ref a32), .val (.ref a46), .val (.ref r66), .val (.int (1 : Int32)), .val (.ref r121), .val (.ref r125), .val (.ref r131), .unset, .unset, .unset]) (hb hby at_132) rfl rfl rfl ?_
    refine go_iload (pc' := 136) (hb hby at_134) rfl rfl ?_
    refine go_ifF (pc' := 139) (hb hby at_136) rfl (by decide) ?_
    refine go_newO (pc' := 142) (cells' := 13) (slots' := 54) (wk G 118 rfl) (wk G 119 rfl) (wk G 120 rfl) (hb hby at_139) rfl rfl rfl (by decide) (by decide) (fun h134 a135 g136 X137 E138 D139 U140 => ?_)
    refine go_dup (pc' := 143) (hb hby at_142) rfl rfl ?_
    refine go_aload (pc' := 145) (hb hby at_143) rfl rfl rfl ?_
    refine go_aload (pc' := 147) (hb hby at_145) rfl rfl rfl ?_
    refine go_aload (pc' := 149) (hb hby at_147) rfl rfl rfl ?_
    refine go_aload (pc' := 151) (hb hby at_149) rfl rfl rfl ?_
    have K141 : Keep h0 h45 [] := (K59.ext X48)
    have K142 : Keep h0 h60 [] := (K141.trans K61 (allS (Or.inr (Nat.le_trans K59.1 (Nat.le_of_eq g47))) all0))
    have K143 : Keep h0 h119 [] := (K142.trans K120 all0)
    have K144 : Keep h0 h123 [] := (K143.trans K124 all0)
    have K145 : Keep h0 h129 [] := (K144.trans K130 all0)
    have F146 := D139 (Or.inr (wk G 126 rfl)) (ty := (.object "java/lang/String")) (by decide)
    have F147 := D139 (Or.inr (wk G 128 rfl)) (ty := (.object "java/lang/String")) (by decide)
    have F148 := D139 (Or.inr (wk G 130 rfl)) (ty := (.object "java/lang/String")) (by decide)
    have F149 := D139 (Or.inr (wk G 132 rfl)) (ty := (.object "com/example/bailiwick/bailiwick/resource/AccessLevel")) (by decide)
    refine go_old (fun O150 => ?_)
    refine callI0 (cells' := 13) (slots' := 54) (Wd := 1) (argsL := [(.ref r121), (.ref r125), (.ref r131), (.ref r66)]) (rest := [(.ref a135)]) (pay_of (a0 := a0) (c_grinit l G a135 r121 r125 r131 r66 h134 O150 E138 (Nat.le_trans O0.2.1 (Nat.le_trans K145.1 (Nat.le_of_eq g136))) F146 F147 F148 F149) (wk G 123 rfl) (wk G 120 rfl) (by decide) (by decide)) rfl (wk G 121 rfl) (wk G 122 rfl) (wk G 123 rfl) (by decide) pd15 rfl rfl (by rw [hml]; rfl) (Nat.le_of_ble_eq_true rfl) rfl rfl (by decide) (by decide) (allS (Nat.le_trans O0.2.1 (Nat.le_trans K145.1 (Nat.le_of_eq g136))) all0) (fun _ hal => (sfS (Safe.exa hal E138 (by decide) (by decide)) sf0)) (hb hby at_151) (k_n (pc' := 154) rfl ?_)
    rintro  h151 ⟨f153, f154, f155, f156⟩ K152
    refine go_goto (pc' := 158) (hb hby at_154) (by decide) rfl ?_
    refine go_astore (pc' := 160) (ls' := #[.val (.int x0), .val (.int x1), .val (.int x2), .val (.int x3), .val (.ref a2), .val (.ref a14), .val (.ref a32), .val (.ref a46), .val (.ref r66), .val (.int (1 : Int32)), .val (.ref r121), .val (.ref r125), .val (.ref r131), .val (.ref a135), .unset, .unset]) (hb hby at_158) rfl rfl rfl ?_
    refine go_aload (pc' := 162) (hb hby at_160) rfl rfl rfl ?_
    refine go_aload (pc' := 164) (hb hby at_162) rfl rfl rfl ?_
    refine go_aload (pc' := 166) (hb hby at_164) rfl rfl rfl ?_
    refine go_old (fun O157 => ?_)
    refine callS0 (cells' := 14) (slots' := 59) (Wd := 0) (argsL := [(.ref a14), (.ref a46), (.ref a135)]) (rest := []) (pay_of (a0 := a0) (c_granted l G (.ref a14) (.ref a46) (.ref a135) h151 O157 rfl rfl rfl) (wk G 60 rfl) (wk G 59 rfl) (by decide) (by decide)) (wk G 57 rfl) (wk G 58 rfl) (wk G 59 rfl) (wk G 60 rfl) (by decide) pd10 rfl rfl (by rw [hml]; rfl) (Nat.le_of_ble_eq_true rfl) rfl rfl (by decide) (by decide) all0 (fun _ _ => sf0) (hb hby at_166) (k_v (pc' := 169) rfl ?_)
    rintro _ h158 ⟨r160, rfl, f161, f162, f163, f164, f165, f166, f167⟩ K159
    refine go_astore (pc' := 171) (ls' := #[.val (.int x0), .val (.int x1), .val (.int x2), .val (.int x3), .val (.ref a2), .val (.ref a14), .val (.ref a32), .val (.ref a46), .val (.ref r66), .val (.int (1 : Int32)), .val (.ref r121), .val (.ref r125), .val (.ref r131), .val (.ref a135), .val (.ref r160), .unset]) (hb hby at_169) rfl rfl rfl ?_
    refine go_iload (pc' := 173) (hb hby at_171) rfl rfl ?_
    refine go_ifF (pc' := 176) (hb hby at_173) rfl (by decide) ?_
    refine go_aload (pc' := 178) (hb hby at_176) rfl rfl rfl ?_
    refine go_goto (pc' := 184) (hb hby at_178) (by decide) rfl ?_
    refine go_astore (pc' := 186) (ls' := #[.val (.int x0), .val (.int x1), .val (.int x2), .val (.int x3), .val (.ref a2), .val (.ref a14), .val (.ref a32), .val (.ref a46), .val (.ref r66), .val (.int (1 : Int32)), .val (.ref r121), .val (.ref r125), .val (.ref r131), .val (.ref a135), .val (.ref r160), .val (.ref r66)]) (hb hby at_184) rfl rfl rfl ?_
    refine go_aload (pc' := 188) (hb hby at_186) rfl rfl rfl ?_
    refine go_aload (pc' := 190) (hb hby at_188) rfl rfl rfl ?_
    refine go_old (fun O168 => ?_)
    refine callV0 (cells' := 14) (slots' := 59) (Wd := 1) (argsL := []) (rest := [(.ref a14)]) (pay_of (a0 := a0) (c_getUser l G r160 (.ref a14) h158 O168 f163 rfl) (wk G 83 rfl) (wk G 59 rfl) (by decide) (by decide)) f162 (wk G 79 rfl) (wk G 80 rfl) (wk G 82 rfl) (wk G 82 rfl) (wk G 81 rfl) (by decide) pd11 rfl rfl (by rw [hml]; rfl) (Nat.le_of_ble_eq_true rfl) rfl rfl (by decide) (by decide) all0 (fun _ _ => sf0) (hb hby at_190) (k_v (pc' := 193) rfl ?_)
    rintro _ h169 ⟨rfl, rfl⟩ K170
    have E171 := ((((((((((((E17.keep K29).ext X34).wr W38).wr W43).ext X48).keep K61).keep K120).keep K124).keep K130).ext X137).keep K152).keep K159)
    refine callV0 (cells' := 14) (slots' := 59) (Wd := 0) (argsL := [(.ref a14)]) (rest := []) (pay_of (a0 := a0) (c_eqsame l G a14 h158 O168 ) (wk G 88 rfl) (wk G 3 rfl) (by decide) (by decide)) E171 (wk G 84 rfl) (wk G 85 rfl) (wk G 87 rfl) (wk G 87 rfl) (wk G 86 rfl) (by decide) pd12 rfl rfl (by rw [hml]; rfl) (Nat.le_of_ble_eq_true rfl) rfl rfl (by decide) (by decide) all0 (fun _ _ => sf0) (hb hby at_193) (k_v (pc' := 196) rfl ?_)
    rintro _ h172 ⟨rfl, rfl⟩ K173
    refine go_ifF (pc' := 199) (hb hby at_196) rfl (by decide) ?_
    refine go_aload (pc' := 201) (hb hby at_199) rfl rfl rfl ?_
    refine go_aload (pc' := 203) (hb hby at_201) rfl rfl rfl ?_
    refine callV0 (cells' := 14) (slots' := 59) (Wd := 1) (argsL := []) (rest := [(.ref a46)]) (pay_of (a0 := a0) (c_getPath l G r160 (.ref a46) h158 O168 f164 rfl) (wk G 93 rfl) (wk G 59 rfl) (by decide) (by decide)) f162 (wk G 89 rfl) (wk G 90 rfl) (wk G 92 rfl) (wk G 92 rfl) (wk G 91 rfl) (by decide) pd11 rfl rfl (by rw [hml]; rfl) (Nat.le_of_ble_eq_true rfl) rfl rfl (by decide) (by decide) all0 (fun _ _ => sf0) (hb hby at_203) (k_v (pc' := 206) rfl ?_)
    rintro _ h174 ⟨rfl, rfl⟩ K175
    have E176 := (((((((E49.keep K61).keep K120).keep K124).keep K130).ext X137).keep K152).keep K159)
    refine callV0 (cells' := 14) (slots' := 59) (Wd := 0) (argsL := [(.ref a46)]) (rest := []) (pay_of (a0 := a0) (c_eqsame l G a46 h158 O168 ) (wk G 88 rfl) (wk G 3 rfl) (by decide) (by decide)) E176 (wk G 84 rfl) (wk G 85 rfl) (wk G 87 rfl) (wk G 87 rfl) (wk G 86 rfl) (by decide) pd12 rfl rfl (by rw [hml]; rfl) (Nat.le_of_ble_eq_true rfl) rfl rfl (by decide) (by decide) all0 (fun _ _ => sf0) (hb hby at_206) (k_v (pc' := 209) rfl ?_)
    rintro _ h177 ⟨rfl, rfl⟩ K178
    refine go_ifF (pc' := 212) (hb hby at_209) rfl (by decide) ?_
    refine go_aload (pc' := 214) (hb hby at_212) rfl rfl rfl ?_
    refine callV0 (cells' := 14) (slots' := 59) (Wd := 0) (argsL := []) (rest := []) (pay_of (a0 := a0) (c_isSuper l G r160 (0 : Int32) h158 O168 f165 (⟨rfl, by decide⟩)) (wk G 98 rfl) (wk G 59 rfl) (by decide) (by decide)) f162 (wk G 94 rfl) (wk G 95 rfl) (wk G 97 rfl) (wk G 97 rfl) (wk G 96 rfl) (by decide) pd13 rfl rfl (by rw [hml]; rfl) (Nat.le_of_ble_eq_true rfl) rfl rfl (by decide) (by decide) all0 (fun _ _ => sf0) (hb hby at_214) (k_v (pc' := 217) rfl ?_)
    rintro _ h179 ⟨rfl, rfl⟩ K180
    refine go_ifF (pc' := 220) (hb hby at_217) rfl (by decide) ?_
    refine go_aload (pc' := 222) (hb hby at_220) rfl rfl rfl ?_
    refine callV0 (cells' := 14) (slots' := 59) (Wd := 0) (argsL := []) (rest := []) (pay_of (a0 := a0) (c_getOwned l G r160 .null h158 O168 f166 rfl) (wk G 103 rfl) (wk G 59 rfl) (by decide) (by decide)) f162 (wk G 99 rfl) (wk G 100 rfl) (wk G 102 rfl) (wk G 102 rfl) (wk G 101 rfl) (by decide) pd11 rfl rfl (by rw [hml]; rfl) (Nat.le_of_ble_eq_true rfl) rfl rfl (by decide) (by decide) all0 (fun _ _ => sf0) (hb hby at_222) (k_v (pc' := 225) rfl ?_)
    rintro _ h181 ⟨rfl, rfl⟩ K182
    refine go_nnF (pc' := 228) (hb hby at_225) rfl ?_
    refine go_aload (pc' := 230) (hb hby at_228) rfl rfl rfl ?_
    refine callV0 (cells' := 14) (slots' := 59) (Wd := 0) (argsL := []) (rest := []) (pay_of (a0 := a0) (c_getGrant l G r160 (.ref a135) h158 O168 f167 rfl) (wk G 108 rfl) (wk G 59 rfl) (by decide) (by decide)) f162 (wk G 104 rfl) (wk G 105 rfl) (wk G 107 rfl) (wk G 107 rfl) (wk G 106 rfl) (by decide) pd14 rfl rfl (by rw [hml]; rfl) (Nat.le_of_ble_eq_true rfl) rfl rfl (by decide) (by decide) all0 (fun _ _ => sf0) (hb hby at_230) (k_v (pc' := 233) rfl ?_)
    rintro _ h183 ⟨rfl, rfl⟩ K184
    refine go_aload (pc' := 235) (hb hby at_233) rfl rfl rfl ?_
    refine go_acF (pc' := 238) (hb hby at_235) rfl rfl rfl (XT.aa_ne_f rfl) ?_
    refine go_aload (pc' := 240) (hb hby at_238) rfl rfl rfl ?_
    have K185 : Keep h151 h158 [] := ((Keep.refl h151 []).trans K159 all0)
    have F186 := (f156.keep K185 nin0)
    have E187 := ((E138.keep K152).keep K159)
    refine callV0 (cells' := 14) (slots' := 59) (Wd := 0) (argsL := []) (rest := []) (pay_of (a0 := a0) (c_getLevelG l G r160 a135 r66 h158 O168 f165 f166 f167 E187 F186) (wk G 113 rfl) (wk G 59 rfl) (by decide) (by decide)) f162 (wk G 109 rfl) (wk G 110 rfl) (wk G 112 rfl) (wk G 112 rfl) (wk G 111 rfl) (by decide) pd5 rfl rfl (by rw [hml]; rfl) (Nat.le_of_ble_eq_true rfl) rfl rfl (by decide) (by decide) all0 (fun _ _ => sf0) (hb hby at_240) (k_v (pc' := 243) rfl ?_)
    rintro _ h188 ⟨rfl, rfl⟩ K189
    refine go_aload (pc' := 245) (hb hby at_243) rfl rfl rfl ?_
    refine go_acF (pc' := 248) (hb hby at_245) rfl rfl rfl (XT.aa_ne_f rfl) ?_
    refine go_iconst (pc' := 249) (v := 1) (hb hby at_248) rfl rfl ?_
    refine go_goto (pc' := 253) (hb hby at_249) (by decide) rfl ?_
    have K190 : Keep h0 h134 [] := (K145.ext X137)
    have K191 : Keep h0 h151 [] := (K190.trans K152 (allS (Or.inr (Nat.le_trans K145.1 (Nat.le_of_eq g136))) all0))
    have K192 : Keep h0 h158 [] := (K191.trans K159 all0)
    refine go_ireturn hret hlk rfl (by simp) (hb hby at_253) (by decide) (by decide) ⟨_, rfl, rfl⟩ K192
set_option maxRecDepth 65536 in
set_option maxHeartbeats 40000000 in
theorem comes_1 {Post : Tables → Env → Array Value → State → Outcome → State → Prop} (hpost : ∀ tb e args s v u, (limb_1_1.after args s (.returned v) u = true ∧ limb_1_2.after args s (.returned v) u = true ∧ True) → ReturnedEndW s (.returned v) u (Jvm.fieldLocs frame_1_writes args s ++ Jvm.arrayLocs frame_1_arrays args s ++ Jvm.staticLocs frame_1_statics s) 40 3264 → Post tb e args s (.returned v) u) :
    ArmFor flags0 classFile x code maxLocals ret World_1 tables_1 room_1 Calls_1 rest_1 Pre_1 Post := by
  intro l hfl _ _ p e ha hc hk s m args below hf hA hF happ hP
  obtain ⟨hcalls, hrest, hpre⟩ := hP
  obtain ⟨-, -, -, hnamed, -, -, -, hat⟩ := (Spec.applies_iff hf).mp happ
  obtain ⟨hg, hn⟩ := and_e (Cond.before_iff.mp (show (Jvm.Cond.and given_1 narrow_1).before args s = true from hpre))
  obtain ⟨h1, h2⟩ := and_e hg
  obtain ⟨w0, w1, w2, w3, rfl⟩ : ∃ w0 w1 w2 w3 : Value, args = #[w0, w1, w2, w3] := by
    have hs : args.size = 4 := by simpa [Cond.value, given_1] using h1
    obtain ⟨L⟩ := args
    match L, hs with
    | [w0, w1, w2, w3], _ => exact ⟨w0, w1, w2, w3, rfl⟩
  have hw := fun d (hd : d ∈ tables_1) => atoms_spec (ws := Jvm.Cond.code x code maxLocals ret :: tables_1) hat d (List.mem_cons_of_mem _ hd)
  obtain ⟨hsets, hown0⟩ := atoms_of _ (rest_1_c_eq ▸ (show rest_1_c.before _ s = true from hrest))
  have hfit : Fit s := fun {y c} hc i hi => by
    obtain ⟨ha, rfl⟩ := Array.getElem?_eq_some_iff.mp hc
    have q := List.all_eq_true.mp ((Array.all_eq_true_iff_forall_mem.mp hF) _ (Array.getElem_mem ha)) i (List.mem_range.mpr hi)
    simpa [Array.getElem?_eq_getElem hi] using q
  obtain ⟨q0, h2⟩ := and_e h2
  obtain ⟨i0, e0⟩ := is_v q0
  obtain rfl : w0 = (.int i0) := Option.some.inj e0
  obtain ⟨q1, h2⟩ := and_e h2
  obtain ⟨i1, e1⟩ := is_v q1
  obtain rfl : w1 = (.int i1) := Option.some.inj e1
  obtain ⟨q2, h2⟩ := and_e h2
  obtain ⟨i2, e2⟩ := is_v q2
  obtain rfl : w2 = (.int i2) := Option.some.inj e2
  have q3 := h2
  obtain ⟨i3, e3⟩ := is_v q3
  obtain rfl : w3 = (.int i3) := Option.some.inj e3
  have hew : EW s #[(.int i0), (.int i1), (.int i2), (.int i3)] EL1 := EW.nil
  have G : GH s #[(.int i0), (.int i1), (.int i2), (.int i3)] := ⟨hw, hsets, hew, hn, hfit⟩
  obtain ⟨n, o, h1, h2, h3, v, L, rfl, ⟨⟨_, rfl, hv⟩, N, -⟩, hC, -⟩ := c_law l G i0 i1 i2 i3 s.heap (Old.start s) p e ha hc hk s m _ below hf ((Spec.applies_iff_loose hf).mp happ).1 ⟨rfl, State.Warmed39.refl s, rfl, (fun _ => chv_nil)⟩ trivial
  subst hv
  have hq := (hC rfl).2
  refine ⟨n, _, h1, h2, h3, hpost _ _ _ _ _ _ ⟨Cond.after_iff.mpr rfl, Cond.after_iff.mpr (eq_i res_at (Term.int_eval (1)) rfl), trivial⟩ ⟨hq.1, hq.2.1, hq.2.2.1, (hq.2.2.2.sift fun y hy => Or.inr (N y hy)).mono (by decide) (by decide)⟩⟩
theorem main_1_1 : Claimed_1_1 := comes_1 fun _ _ _ _ _ _ h hF => ⟨h.1, hF⟩
theorem main_1_2 : Claimed_1_2 := comes_1 fun _ _ _ _ _ _ h hF => ⟨h.2.1, hF⟩
end Jvm.Pilot.@@N@@
namespace Jvm.Pilot.@@N@@
open Jvm Jvm.ClassFile Sem Op Lib Jvm.Free Jvm.Stand Jvm.Pilot.@@N@@.Jvm.D
/-! MADE BY PROGRAM (witnessworld.py) out of the Statement's table words and the real class files: 23 classes; the members and pool entries that the words name. The judged class is class 1, her method 3. -/
namespace start1
open Jvm.ClassFile
def u (s : String) : CpInfo := .utf8 (stringToUtf16 s)
/-- a pool by its gaps: so many unusable entries, then the entry; so many at the end -/
def gap : Nat → List CpInfo → List CpInfo
  | 0, r => r
  | n + 1, r => .unusable :: gap n r
def poolList (es : List (Nat × CpInfo)) (last : Nat) : List CpInfo := es.foldr (fun e r => gap e.1 (e.2 :: r)) (gap last [])
def pool (es : List (Nat × CpInfo)) (last : Nat) : Array CpInfo := ⟨poolList es last⟩
def fileOf (pool : Array CpInfo) (this : Nat) (attrs : Array Attribute := #[]) (ms : Array MethodInfo := #[]) (fl : Nat := 33) (sup : Nat := 0) (ifs : Array Nat := #[]) (fds : Array FieldInfo := #[]) : ClassFile where
  minorVersion := 0
  majorVersion := 65
  constantPool := pool
  accessFlags := fl
  thisClass := this
  superClass := sup
  interfaces := ifs
  fields := fds
  methods := ms
  attributes := attrs
def plain (name : String) (sup : Option ClassId) : Class where
  name := name
  kind := .ordinary
  loader := none
  accessFlags := 33
  super := sup
  interfaces := #[]
  cf := none
  fields := #[]
  methods := #[]
  instanceTypes := #[]
  staticTypes := #[]
  resolved := #[]
  callSites := []
  init := .initialized
  statics := none
  mirror := none

def pool0 : Array CpInfo := pool [(5, u "<init>"), (0, u "()V"), (1, .class_ 10), (1, u "java/lang/Object")] 113

def k0c0 : Code := { maxStack := 0, maxLocals := 1, code := object_method_1_code, exceptionTable := #[], attributes := #[] }
def k0m0 : Method := { name := "<init>", desc := "()V", sig := { parameters := [], returnType := none }, accessFlags := 1, code := some k0c0 }
/-- java/lang/Object -/
def k0 : Class := { plain "java/lang/Object" none with
  accessFlags := 33
  interfaces := #[]
  cf := some (fileOf pool0 8 #[] #[{ accessFlags := 1, nameIndex := 5, descriptorIndex := 6, attributes := #[] }] 33 0 #[] #[])
  fields := #[]
  methods := #[k0m0]
  instanceTypes := #[]
  staticTypes := #[]
  resolved := Array.replicate 124 none
  statics := none }

def pool1 : Array CpInfo := pool [(2, .class_ 4), (1, u "java/lang/Object"), (0, u "<init>"), (0, u "()V"), (0, .fieldref 8 9), (0, .class_ 10), (0, .nameAndType 11 12), (0, u "com/example/bailiwick/bailiwick/resource/AccessLevel"), (0, u "NONE"), (0, u "Lcom/example/bailiwick/bailiwick/resource/AccessLevel;"), (0, .fieldref 8 14), (0, .nameAndType 15 12), (0, u "READ"), (0, .fieldref 8 17), (0, .nameAndType 18 12), (0, u "WRITE"), (0, .fieldref 8 20), (0, .nameAndType 21 12), (0, u "ALL"), (0, .class_ 23), (0, u "com/example/bailiwick/bailiwick/resource/Grant"), (0, .string 25), (0, u "user"), (0, .string 27), (0, u "role"), (0, .string 29), (0, u "group"), (0, .class_ 31), (0, u "java/lang/String"), (0, .methodref 30 33), (0, .nameAndType 5 34), (0, u "([C)V"), (0, .methodref 36 37), (0, .class_ 38), (0, .nameAndType 39 40), (0, u "com/example/bailiwick/bailiwick/policy/AccessExplanationGrantedPinLaw"), (0, u "level"), (0, u "(I)Lcom/example/bailiwick/bailiwick/resource/AccessLevel;"), (0, .methodref 36 42), (0, .nameAndType 43 44), (0, u "kind"), (0, u "(I)Ljava/lang/String;"), (0, .methodref 30 46), (0, .nameAndType 47 48), (0, u "valueOf"), (0, u "(C)Ljava/lang/String;"), (0, .methodref 22 50), (0, .nameAndType 5 51), (0, u "(Ljava/lang/String;Ljava/lang/String;Ljava/lang/String;Lcom/example/bailiwick/bailiwick/resource/AccessLevel;)V"), (0, .methodref 53 54), (0, .class_ 55), (0, .nameAndType 56 57), (0, u "com/example/bailiwick/bailiwick/policy/AccessExplanation"), (0, u "granted"), (0, u "(Ljava/lang/String;Ljava/lang/String;Lcom/example/bailiwick/bailiwick/resource/Grant;)Lcom/example/bailiwick/bailiwick/policy/AccessExplanation;"), (0, .methodref 53 59), (0, .nameAndType 60 61), (0, u "getUser"), (0, u "()Ljava/lang/String;"), (0, .methodref 30 63), (0, .nameAndType 64 65), (0, u "equals"), (0, u "(Ljava/lang/Object;)Z"), (0, .methodref 53 67), (0, .nameAndType 68 61), (0, u "getPath"), (0, .methodref 53 70), (0, .nameAndType 71 72), (0, u "isSuperuser"), (0, u "()Z"), (0, .methodref 53 74), (0, .nameAndType 75 61), (0, u "getOwnedPath"), (0, .methodref 53 77), (0, .nameAndType 78 79), (0, u "getGrant"), (0, u "()Lcom/example/bailiwick/bailiwick/resource/Grant;"), (0, .methodref 53 81), (0, .nameAndType 82 83), (0, u "getLevel"), (0, u "()Lcom/example/bailiwick/bailiwick/resource/AccessLevel;"), (3, u "law"), (0, u "(IIII)Z")] 4

def k1m0 : Method := { name := "<init>", desc := "()V", sig := { parameters := [], returnType := none }, accessFlags := 1, code := none }
def k1c1 : Code := { maxStack := 2, maxLocals := 1, code := method_2_code, exceptionTable := #[], attributes := #[] }
def k1m1 : Method := { name := "level", desc := "(I)Lcom/example/bailiwick/bailiwick/resource/AccessLevel;", sig := { parameters := [.int], returnType := some (.object "com/example/bailiwick/bailiwick/resource/AccessLevel") }, accessFlags := 10, code := some k1c1 }
def k1c2 : Code := { maxStack := 2, maxLocals := 1, code := method_3_code, exceptionTable := #[], attributes := #[] }
def k1m2 : Method := { name := "kind", desc := "(I)Ljava/lang/String;", sig := { parameters := [.int], returnType := some (.object "java/lang/String") }, accessFlags := 10, code := some k1c2 }
def k1c3 : Code := { maxStack := 6, maxLocals := 16, code := code, exceptionTable := #[], attributes := #[] }
def k1m3 : Method := { name := "law", desc := "(IIII)Z", sig := { parameters := [.int, .int, .int, .int], returnType := some .boolean }, accessFlags := 9, code := some k1c3 }
/-- com/example/bailiwick/bailiwick/policy/AccessExplanationGrantedPinLaw -/
def k1 : Class := { plain "com/example/bailiwick/bailiwick/policy/AccessExplanationGrantedPinLaw" (some 0) with
  accessFlags := 49
  interfaces := #[]
  cf := some (fileOf pool1 36 #[] #[{ accessFlags := 1, nameIndex := 5, descriptorIndex := 6, attributes := #[] }, { accessFlags := 10, nameIndex := 39, descriptorIndex := 40, attributes := #[] }, { accessFlags := 10, nameIndex := 43, descriptorIndex := 44, attributes := #[] }, { accessFlags := 9, nameIndex := 87, descriptorIndex := 88, attributes := #[] }] 49 2 #[] #[])
  fields := #[]
  methods := #[k1m0, k1m1, k1m2, k1m3]
  instanceTypes := #[]
  staticTypes := #[]
  resolved := Array.replicate 93 none
  statics := none }

def pool2 : Array CpInfo := pool [(1, .class_ 2), (0, u "java/io/Serializable"), (0, .class_ 4), (0, u "java/lang/Object")] 2

/-- java/io/Serializable -/
def k2 : Class := { plain "java/io/Serializable" (some 0) with
  accessFlags := 1537
  interfaces := #[]
  cf := some (fileOf pool2 1 #[] #[] 1537 3 #[] #[])
  fields := #[]
  methods := #[]
  instanceTypes := #[]
  staticTypes := #[]
  resolved := Array.replicate 7 none
  statics := none }

def pool3 : Array CpInfo := pool [(1, .class_ 2), (0, u "java/lang/Comparable"), (0, .class_ 4), (0, u "java/lang/Object")] 7

/-- java/lang/Comparable -/
def k3 : Class := { plain "java/lang/Comparable" (some 0) with
  accessFlags := 1537
  interfaces := #[]
  cf := some (fileOf pool3 1 #[] #[] 1537 3 #[] #[])
  fields := #[]
  methods := #[]
  instanceTypes := #[]
  staticTypes := #[]
  resolved := Array.replicate 12 none
  statics := none }

def pool4 : Array CpInfo := pool [(2, .class_ 4), (1, u "java/lang/CharSequence"), (42, .class_ 48), (0, u "java/lang/CharSequence$1CodePointIterator"), (10, .class_ 60), (0, u "java/lang/CharSequence$1CharIterator"), (5, .class_ 67), (0, u "java/lang/Object")] 63

/-- java/lang/CharSequence -/
def k4 : Class := { plain "java/lang/CharSequence" (some 0) with
  accessFlags := 1537
  interfaces := #[]
  cf := some (fileOf pool4 2 #[.nestMembers #[47, 59]] #[] 1537 66 #[] #[])
  fields := #[]
  methods := #[]
  instanceTypes := #[]
  staticTypes := #[]
  resolved := Array.replicate 131 none
  statics := none }

def pool5 : Array CpInfo := pool [(1, .class_ 2), (0, u "java/lang/constant/Constable"), (0, .class_ 4), (0, u "java/lang/Object")] 6

/-- java/lang/constant/Constable -/
def k5 : Class := { plain "java/lang/constant/Constable" (some 0) with
  accessFlags := 1537
  interfaces := #[]
  cf := some (fileOf pool5 1 #[] #[] 1537 3 #[] #[])
  fields := #[]
  methods := #[]
  instanceTypes := #[]
  staticTypes := #[]
  resolved := Array.replicate 11 none
  statics := none }

def pool6 : Array CpInfo := pool [(1, .class_ 2), (0, u "java/lang/constant/ConstantDesc"), (0, .class_ 4), (0, u "java/lang/Object")] 32

/-- java/lang/constant/ConstantDesc -/
def k6 : Class := { plain "java/lang/constant/ConstantDesc" (some 0) with
  accessFlags := 1537
  interfaces := #[]
  cf := some (fileOf pool6 1 #[] #[] 1537 3 #[] #[])
  fields := #[]
  methods := #[]
  instanceTypes := #[]
  staticTypes := #[]
  resolved := Array.replicate 37 none
  statics := none }

def pool7 : Array CpInfo := pool [(1, .methodref 2 3), (0, .class_ 4), (0, .nameAndType 5 6), (0, u "java/lang/Object"), (0, u "<init>"), (0, u "()V"), (2, .fieldref 10 11), (0, .class_ 12), (0, .nameAndType 13 14), (0, u "java/lang/String"), (0, u "value"), (0, u "[B"), (0, .fieldref 10 16), (0, .nameAndType 17 18), (0, u "coder"), (0, u "B"), (2, u "hash"), (0, u "I"), (2, u "hashIsZero"), (0, u "Z"), (0, .methodref 10 28), (0, .nameAndType 5 29), (0, u "([CIILjava/lang/Void;)V"), (8, .fieldref 10 39), (0, .nameAndType 40 26), (0, u "COMPACT_STRINGS"), (1, .class_ 44), (1, u "java/lang/StringUTF16"), (0, u "compress"), (1, .methodref 42 48), (0, .nameAndType 49 50), (0, u "coderFromArrayLen"), (0, u "([BI)B"), (2, u "toBytes"), (53, .class_ 109), (1, u "java/lang/StringLatin1"), (67, .methodref 42 178), (0, .nameAndType 45 179), (0, u "([CII)[B"), (29, .methodref 10 210), (0, .nameAndType 5 211), (0, u "([BB)V"), (157, u "(C)Z"), (173, u "equals"), (29, u "(Ljava/lang/Object;)Z"), (1, .class_ 576), (0, u "java/lang/CharSequence"), (22, u "CASE_INSENSITIVE_ORDER"), (0, u "Ljava/util/Comparator;"), (181, u "valueOf"), (0, u "(C)Ljava/lang/String;"), (226, u "([C)V"), (4, .methodref 107 1016), (0, .nameAndType 1017 369), (0, u "canEncode"), (0, .methodref 107 1019), (0, .nameAndType 53 1020), (0, u "(C)[B"), (80, u "serialPersistentFields"), (0, u "[Ljava/io/ObjectStreamField;"), (0, .class_ 1104), (0, u "java/lang/String$CaseInsensitiveComparator"), (1, .class_ 1107), (0, u "java/io/Serializable"), (0, .class_ 1109), (0, u "java/lang/Comparable"), (0, .class_ 1111), (0, u "java/lang/constant/Constable"), (0, .class_ 1113), (0, u "java/lang/constant/ConstantDesc"), (2, u "serialVersionUID"), (0, u "J"), (3, u "REPL"), (0, u "C"), (2, u "LATIN1"), (1, u "UTF16")] 323

def k7m0 : Method := { name := "<init>", desc := "()V", sig := { parameters := [], returnType := none }, accessFlags := 1, code := none }
def k7c1 : Code := { maxStack := 5, maxLocals := 2, code := jdk_42_method_3_code, exceptionTable := #[], attributes := #[] }
def k7m1 : Method := { name := "<init>", desc := "([C)V", sig := { parameters := [(.array .char)], returnType := none }, accessFlags := 1, code := some k7c1 }
def k7c2 : Code := { maxStack := 2, maxLocals := 3, code := jdk_42_method_66_code, exceptionTable := #[], attributes := #[] }
def k7m2 : Method := { name := "equals", desc := "(Ljava/lang/Object;)Z", sig := { parameters := [(.object "java/lang/Object")], returnType := some .boolean }, accessFlags := 1, code := some k7c2 }
def k7c3 : Code := { maxStack := 4, maxLocals := 1, code := jdk_42_method_139_code, exceptionTable := #[], attributes := #[] }
def k7m3 : Method := { name := "valueOf", desc := "(C)Ljava/lang/String;", sig := { parameters := [.char], returnType := some (.object "java/lang/String") }, accessFlags := 9, code := some k7c3 }
def k7c4 : Code := { maxStack := 4, maxLocals := 6, code := jdk_42_method_149_code, exceptionTable := #[], attributes := #[] }
def k7m4 : Method := { name := "<init>", desc := "([CIILjava/lang/Void;)V", sig := { parameters := [(.array .char), .int, .int, (.object "java/lang/Void")], returnType := none }, accessFlags := 2, code := some k7c4 }
def k7c5 : Code := { maxStack := 2, maxLocals := 3, code := jdk_42_method_151_code, exceptionTable := #[], attributes := #[] }
def k7m5 : Method := { name := "<init>", desc := "([BB)V", sig := { parameters := [(.array .byte), .byte], returnType := none }, accessFlags := 0, code := some k7c5 }
/-- java/lang/String -/
def k7 : Class := { plain "java/lang/String" (some 0) with
  accessFlags := 49
  interfaces := #[2, 3, 4, 5, 6]
  cf := some (fileOf pool7 10 #[.nestMembers #[1103]] #[{ accessFlags := 1, nameIndex := 5, descriptorIndex := 6, attributes := #[] }, { accessFlags := 1, nameIndex := 5, descriptorIndex := 1010, attributes := #[] }, { accessFlags := 1, nameIndex := 543, descriptorIndex := 573, attributes := #[] }, { accessFlags := 9, nameIndex := 782, descriptorIndex := 783, attributes := #[] }, { accessFlags := 2, nameIndex := 5, descriptorIndex := 29, attributes := #[] }, { accessFlags := 0, nameIndex := 5, descriptorIndex := 211, attributes := #[] }] 49 2 #[1106, 1108, 575, 1110, 1112] #[{ accessFlags := 18, nameIndex := 13, descriptorIndex := 14, attributes := #[] }, { accessFlags := 18, nameIndex := 17, descriptorIndex := 18, attributes := #[] }, { accessFlags := 2, nameIndex := 21, descriptorIndex := 22, attributes := #[] }, { accessFlags := 2, nameIndex := 25, descriptorIndex := 26, attributes := #[] }, { accessFlags := 26, nameIndex := 1116, descriptorIndex := 1117, attributes := #[] }, { accessFlags := 24, nameIndex := 40, descriptorIndex := 26, attributes := #[] }, { accessFlags := 26, nameIndex := 1101, descriptorIndex := 1102, attributes := #[] }, { accessFlags := 26, nameIndex := 1121, descriptorIndex := 1122, attributes := #[] }, { accessFlags := 25, nameIndex := 599, descriptorIndex := 600, attributes := #[] }, { accessFlags := 24, nameIndex := 1125, descriptorIndex := 18, attributes := #[] }, { accessFlags := 24, nameIndex := 1127, descriptorIndex := 18, attributes := #[] }])
  fields := #[{ name := "value", type := (.array .byte), accessFlags := 18, slot := 0, constantValue := 0 }, { name := "coder", type := .byte, accessFlags := 18, slot := 1, constantValue := 0 }, { name := "hash", type := .int, accessFlags := 2, slot := 2, constantValue := 0 }, { name := "hashIsZero", type := .boolean, accessFlags := 2, slot := 3, constantValue := 0 }, { name := "serialVersionUID", type := .long, accessFlags := 26, slot := 0, constantValue := 0 }, { name := "COMPACT_STRINGS", type := .boolean, accessFlags := 24, slot := 1, constantValue := 0 }, { name := "serialPersistentFields", type := (.array (.object "java/io/ObjectStreamField")), accessFlags := 26, slot := 2, constantValue := 0 }, { name := "REPL", type := .char, accessFlags := 26, slot := 3, constantValue := 0 }, { name := "CASE_INSENSITIVE_ORDER", type := (.object "java/util/Comparator"), accessFlags := 25, slot := 4, constantValue := 0 }, { name := "LATIN1", type := .byte, accessFlags := 24, slot := 5, constantValue := 0 }, { name := "UTF16", type := .byte, accessFlags := 24, slot := 6, constantValue := 0 }]
  methods := #[k7m0, k7m1, k7m2, k7m3, k7m4, k7m5]
  instanceTypes := #[(.array .byte), .byte, .int, .boolean]
  staticTypes := #[.long, .boolean, (.array (.object "java/io/ObjectStreamField")), .char, (.object "java/util/Comparator"), .byte, .byte]
  resolved := Array.replicate 1451 none
  statics := some 0 }

def pool8 : Array CpInfo := pool [(6, .class_ 8), (1, u "java/lang/Object"), (0, u "<init>"), (0, u "()V"), (1, .class_ 14), (1, u "java/lang/StringUTF16"), (31, u "$assertionsDisabled"), (0, u "Z"), (13, u "HI_BYTE_SHIFT"), (0, u "I"), (2, u "LO_BYTE_SHIFT"), (49, .methodref 12 116), (0, .nameAndType 117 118), (0, u "compress"), (0, u "([CI[BII)I"), (3, u "([CII)[B"), (138, u "coderFromArrayLen"), (0, u "([BI)B"), (106, .class_ 371), (1, u "java/lang/StringUTF16$LinesSpliterator"), (58, u "MAX_LENGTH"), (196, .class_ 628), (0, u "java/lang/StringUTF16$CodePointsSpliterator"), (0, .class_ 630), (0, u "java/lang/StringUTF16$CharsSpliterator")] 4

def k8m0 : Method := { name := "<init>", desc := "()V", sig := { parameters := [], returnType := none }, accessFlags := 0, code := none }
def k8c1 : Code := { maxStack := 2, maxLocals := 2, code := jdk_52_method_15_code, exceptionTable := #[], attributes := #[] }
def k8m1 : Method := { name := "coderFromArrayLen", desc := "([BI)B", sig := { parameters := [(.array .byte), .int], returnType := some .byte }, accessFlags := 8, code := some k8c1 }
def k8c2 : Code := { maxStack := 5, maxLocals := 6, code := jdk_52_method_16_code, exceptionTable := #[], attributes := #[] }
def k8m2 : Method := { name := "compress", desc := "([CII)[B", sig := { parameters := [(.array .char), .int, .int], returnType := some (.array .byte) }, accessFlags := 9, code := some k8c2 }
def k8c3 : Code := { maxStack := 3, maxLocals := 7, code := jdk_52_method_21_code, exceptionTable := #[], attributes := #[] }
def k8m3 : Method := { name := "compress", desc := "([CI[BII)I", sig := { parameters := [(.array .char), .int, (.array .byte), .int, .int], returnType := some .int }, accessFlags := 9, code := some k8c3 }
/-- java/lang/StringUTF16 -/
def k8 : Class := { plain "java/lang/StringUTF16" (some 0) with
  accessFlags := 48
  interfaces := #[]
  cf := some (fileOf pool8 12 #[.nestMembers #[627, 629, 369]] #[{ accessFlags := 0, nameIndex := 9, descriptorIndex := 10, attributes := #[] }, { accessFlags := 8, nameIndex := 261, descriptorIndex := 262, attributes := #[] }, { accessFlags := 9, nameIndex := 117, descriptorIndex := 122, attributes := #[] }, { accessFlags := 9, nameIndex := 117, descriptorIndex := 118, attributes := #[] }] 48 6 #[] #[{ accessFlags := 26, nameIndex := 61, descriptorIndex := 62, attributes := #[] }, { accessFlags := 26, nameIndex := 65, descriptorIndex := 62, attributes := #[] }, { accessFlags := 24, nameIndex := 430, descriptorIndex := 62, attributes := #[] }, { accessFlags := 4120, nameIndex := 46, descriptorIndex := 47, attributes := #[] }])
  fields := #[{ name := "HI_BYTE_SHIFT", type := .int, accessFlags := 26, slot := 0, constantValue := 0 }, { name := "LO_BYTE_SHIFT", type := .int, accessFlags := 26, slot := 1, constantValue := 0 }, { name := "MAX_LENGTH", type := .int, accessFlags := 24, slot := 2, constantValue := 0 }, { name := "$assertionsDisabled", type := .boolean, accessFlags := 4120, slot := 3, constantValue := 0 }]
  methods := #[k8m0, k8m1, k8m2, k8m3]
  instanceTypes := #[]
  staticTypes := #[.int, .int, .int, .boolean]
  resolved := Array.replicate 635 none
  statics := none }

def pool9 : Array CpInfo := pool [(2, .class_ 4), (1, u "java/lang/Enum"), (0, u "name"), (0, u "Ljava/lang/String;"), (2, u "ordinal"), (0, u "I"), (1, .class_ 14), (1, u "java/lang/Object"), (4, u "hash"), (86, .class_ 108), (1, u "java/lang/Enum$EnumDesc"), (2, .class_ 112), (0, u "java/lang/constant/Constable"), (0, .class_ 114), (0, u "java/lang/Comparable"), (0, .class_ 116), (0, u "java/io/Serializable")] 87

/-- java/lang/Enum -/
def k9 : Class := { plain "java/lang/Enum" (some 0) with
  accessFlags := 1057
  interfaces := #[5, 3, 2]
  cf := some (fileOf pool9 2 #[.nestMembers #[106]] #[] 1057 12 #[111, 113, 115] #[{ accessFlags := 18, nameIndex := 5, descriptorIndex := 6, attributes := #[] }, { accessFlags := 18, nameIndex := 9, descriptorIndex := 10, attributes := #[] }, { accessFlags := 2, nameIndex := 19, descriptorIndex := 10, attributes := #[] }])
  fields := #[{ name := "name", type := (.object "java/lang/String"), accessFlags := 18, slot := 0, constantValue := 0 }, { name := "ordinal", type := .int, accessFlags := 18, slot := 1, constantValue := 0 }, { name := "hash", type := .int, accessFlags := 2, slot := 2, constantValue := 0 }]
  methods := #[]
  instanceTypes := #[(.object "java/lang/String"), .int, .int]
  staticTypes := #[]
  resolved := Array.replicate 204 none
  statics := none }

def pool10 : Array CpInfo := pool [(1, .class_ 2), (0, u "com/example/bailiwick/bailiwick/resource/AccessLevel"), (2, u "NONE"), (0, u "Lcom/example/bailiwick/bailiwick/resource/AccessLevel;"), (2, u "READ"), (2, u "WRITE"), (2, u "ALL"), (2, u "$VALUES"), (0, u "[Lcom/example/bailiwick/bailiwick/resource/AccessLevel;"), (6, .class_ 28), (1, u "java/lang/Enum")] 87

/-- com/example/bailiwick/bailiwick/resource/AccessLevel -/
def k10 : Class := { plain "com/example/bailiwick/bailiwick/resource/AccessLevel" (some 9) with
  accessFlags := 16433
  interfaces := #[]
  cf := some (fileOf pool10 1 #[] #[] 16433 26 #[] #[{ accessFlags := 16409, nameIndex := 5, descriptorIndex := 6, attributes := #[] }, { accessFlags := 16409, nameIndex := 9, descriptorIndex := 6, attributes := #[] }, { accessFlags := 16409, nameIndex := 12, descriptorIndex := 6, attributes := #[] }, { accessFlags := 16409, nameIndex := 15, descriptorIndex := 6, attributes := #[] }, { accessFlags := 4122, nameIndex := 18, descriptorIndex := 19, attributes := #[] }])
  fields := #[{ name := "NONE", type := (.object "com/example/bailiwick/bailiwick/resource/AccessLevel"), accessFlags := 16409, slot := 0, constantValue := 0 }, { name := "READ", type := (.object "com/example/bailiwick/bailiwick/resource/AccessLevel"), accessFlags := 16409, slot := 1, constantValue := 0 }, { name := "WRITE", type := (.object "com/example/bailiwick/bailiwick/resource/AccessLevel"), accessFlags := 16409, slot := 2, constantValue := 0 }, { name := "ALL", type := (.object "com/example/bailiwick/bailiwick/resource/AccessLevel"), accessFlags := 16409, slot := 3, constantValue := 0 }, { name := "$VALUES", type := (.array (.object "com/example/bailiwick/bailiwick/resource/AccessLevel")), accessFlags := 4122, slot := 4, constantValue := 0 }]
  methods := #[]
  instanceTypes := #[(.object "java/lang/String"), .int, .int]
  staticTypes := #[(.object "com/example/bailiwick/bailiwick/resource/AccessLevel"), (.object "com/example/bailiwick/bailiwick/resource/AccessLevel"), (.object "com/example/bailiwick/bailiwick/resource/AccessLevel"), (.object "com/example/bailiwick/bailiwick/resource/AccessLevel"), (.array (.object "com/example/bailiwick/bailiwick/resource/AccessLevel"))]
  resolved := Array.replicate 116 none
  statics := some 1 }

def pool11 : Array CpInfo := pool [(4, .class_ 6), (1, u "java/lang/Object"), (0, u "<init>"), (0, u "()V"), (5, .class_ 16), (1, u "java/lang/StringLatin1"), (73, u "canEncode"), (14, u "(C)Z"), (15, u "$assertionsDisabled"), (0, u "Z"), (98, .class_ 223), (1, u "java/lang/StringLatin1$LinesSpliterator"), (156, u "toBytes"), (1, u "(C)[B"), (7, .class_ 391), (0, u "java/lang/StringLatin1$CharsSpliterator")] 3

def k11m0 : Method := { name := "<init>", desc := "()V", sig := { parameters := [], returnType := none }, accessFlags := 0, code := none }
def k11c1 : Code := { maxStack := 2, maxLocals := 1, code := jdk_43_method_3_code, exceptionTable := #[], attributes := #[] }
def k11m1 : Method := { name := "canEncode", desc := "(C)Z", sig := { parameters := [.char], returnType := some .boolean }, accessFlags := 9, code := some k11c1 }
def k11c2 : Code := { maxStack := 4, maxLocals := 1, code := jdk_43_method_46_code, exceptionTable := #[], attributes := #[] }
def k11m2 : Method := { name := "toBytes", desc := "(C)[B", sig := { parameters := [.char], returnType := some (.array .byte) }, accessFlags := 9, code := some k11c2 }
/-- java/lang/StringLatin1 -/
def k11 : Class := { plain "java/lang/StringLatin1" (some 0) with
  accessFlags := 48
  interfaces := #[]
  cf := some (fileOf pool11 14 #[.nestMembers #[390, 221]] #[{ accessFlags := 0, nameIndex := 7, descriptorIndex := 8, attributes := #[] }, { accessFlags := 9, nameIndex := 90, descriptorIndex := 105, attributes := #[] }, { accessFlags := 9, nameIndex := 380, descriptorIndex := 382, attributes := #[] }] 48 4 #[] #[{ accessFlags := 4120, nameIndex := 121, descriptorIndex := 122, attributes := #[] }])
  fields := #[{ name := "$assertionsDisabled", type := .boolean, accessFlags := 4120, slot := 0, constantValue := 0 }]
  methods := #[k11m0, k11m1, k11m2]
  instanceTypes := #[]
  staticTypes := #[.boolean]
  resolved := Array.replicate 395 none
  statics := none }

def pool12 : Array CpInfo := pool [(1, .methodref 2 3), (0, .class_ 4), (0, .nameAndType 5 6), (0, u "java/lang/Object"), (0, u "<init>"), (0, u "()V"), (0, .fieldref 8 9), (0, .class_ 10), (0, .nameAndType 11 12), (0, u "com/example/bailiwick/bailiwick/policy/AccessExplanation"), (0, u "user"), (0, u "Ljava/lang/String;"), (0, .fieldref 8 14), (0, .nameAndType 15 12), (0, u "path"), (0, .fieldref 8 17), (0, .nameAndType 18 19), (0, u "superuser"), (0, u "Z"), (0, .fieldref 8 21), (0, .nameAndType 22 12), (0, u "ownedPath"), (0, .fieldref 8 24), (0, .nameAndType 25 26), (0, u "grant"), (0, u "Lcom/example/bailiwick/bailiwick/resource/Grant;"), (0, .methodref 8 28), (0, .nameAndType 5 29), (0, u "(Ljava/lang/String;Ljava/lang/String;ZLjava/lang/String;Lcom/example/bailiwick/bailiwick/resource/Grant;)V"), (1, .class_ 33), (1, u "com/example/bailiwick/bailiwick/resource/AccessLevel"), (1, u "Lcom/example/bailiwick/bailiwick/resource/AccessLevel;"), (0, .methodref 37 38), (0, .class_ 39), (0, .nameAndType 40 41), (0, u "com/example/bailiwick/bailiwick/resource/Grant"), (0, u "getLevel"), (0, u "()Lcom/example/bailiwick/bailiwick/resource/AccessLevel;"), (0, .fieldref 31 43), (0, .nameAndType 44 35), (0, u "NONE"), (5, u "granted"), (0, u "(Ljava/lang/String;Ljava/lang/String;Lcom/example/bailiwick/bailiwick/resource/Grant;)Lcom/example/bailiwick/bailiwick/policy/AccessExplanation;"), (1, u "getUser"), (0, u "()Ljava/lang/String;"), (0, u "getPath"), (0, u "isSuperuser"), (0, u "()Z"), (0, u "getOwnedPath"), (0, u "getGrant"), (0, u "()Lcom/example/bailiwick/bailiwick/resource/Grant;")] 2

def k12c0 : Code := { maxStack := 2, maxLocals := 6, code := prog_9_method_1_code, exceptionTable := #[], attributes := #[] }
def k12m0 : Method := { name := "<init>", desc := "(Ljava/lang/String;Ljava/lang/String;ZLjava/lang/String;Lcom/example/bailiwick/bailiwick/resource/Grant;)V", sig := { parameters := [(.object "java/lang/String"), (.object "java/lang/String"), .boolean, (.object "java/lang/String"), (.object "com/example/bailiwick/bailiwick/resource/Grant")], returnType := none }, accessFlags := 2, code := some k12c0 }
def k12c1 : Code := { maxStack := 7, maxLocals := 3, code := prog_9_method_4_code, exceptionTable := #[], attributes := #[] }
def k12m1 : Method := { name := "granted", desc := "(Ljava/lang/String;Ljava/lang/String;Lcom/example/bailiwick/bailiwick/resource/Grant;)Lcom/example/bailiwick/bailiwick/policy/AccessExplanation;", sig := { parameters := [(.object "java/lang/String"), (.object "java/lang/String"), (.object "com/example/bailiwick/bailiwick/resource/Grant")], returnType := some (.object "com/example/bailiwick/bailiwick/policy/AccessExplanation") }, accessFlags := 8, code := some k12c1 }
def k12c2 : Code := { maxStack := 1, maxLocals := 2, code := prog_9_method_5_code, exceptionTable := #[], attributes := #[] }
def k12m2 : Method := { name := "getLevel", desc := "()Lcom/example/bailiwick/bailiwick/resource/AccessLevel;", sig := { parameters := [], returnType := some (.object "com/example/bailiwick/bailiwick/resource/AccessLevel") }, accessFlags := 1, code := some k12c2 }
def k12c3 : Code := { maxStack := 1, maxLocals := 1, code := prog_9_method_6_code, exceptionTable := #[], attributes := #[] }
def k12m3 : Method := { name := "getUser", desc := "()Ljava/lang/String;", sig := { parameters := [], returnType := some (.object "java/lang/String") }, accessFlags := 1, code := some k12c3 }
def k12c4 : Code := { maxStack := 1, maxLocals := 1, code := prog_9_method_7_code, exceptionTable := #[], attributes := #[] }
def k12m4 : Method := { name := "getPath", desc := "()Ljava/lang/String;", sig := { parameters := [], returnType := some (.object "java/lang/String") }, accessFlags := 1, code := some k12c4 }
def k12c5 : Code := { maxStack := 1, maxLocals := 1, code := prog_9_method_8_code, exceptionTable := #[], attributes := #[] }
def k12m5 : Method := { name := "isSuperuser", desc := "()Z", sig := { parameters := [], returnType := some .boolean }, accessFlags := 1, code := some k12c5 }
def k12c6 : Code := { maxStack := 1, maxLocals := 1, code := prog_9_method_9_code, exceptionTable := #[], attributes := #[] }
def k12m6 : Method := { name := "getOwnedPath", desc := "()Ljava/lang/String;", sig := { parameters := [], returnType := some (.object "java/lang/String") }, accessFlags := 1, code := some k12c6 }
def k12c7 : Code := { maxStack := 1, maxLocals := 1, code := prog_9_method_10_code, exceptionTable := #[], attributes := #[] }
def k12m7 : Method := { name := "getGrant", desc := "()Lcom/example/bailiwick/bailiwick/resource/Grant;", sig := { parameters := [], returnType := some (.object "com/example/bailiwick/bailiwick/resource/Grant") }, accessFlags := 1, code := some k12c7 }
/-- com/example/bailiwick/bailiwick/policy/AccessExplanation -/
def k12 : Class := { plain "com/example/bailiwick/bailiwick/policy/AccessExplanation" (some 0) with
  accessFlags := 49
  interfaces := #[]
  cf := some (fileOf pool12 8 #[] #[{ accessFlags := 2, nameIndex := 5, descriptorIndex := 29, attributes := #[] }, { accessFlags := 8, nameIndex := 50, descriptorIndex := 51, attributes := #[] }, { accessFlags := 1, nameIndex := 40, descriptorIndex := 41, attributes := #[] }, { accessFlags := 1, nameIndex := 53, descriptorIndex := 54, attributes := #[] }, { accessFlags := 1, nameIndex := 55, descriptorIndex := 54, attributes := #[] }, { accessFlags := 1, nameIndex := 56, descriptorIndex := 57, attributes := #[] }, { accessFlags := 1, nameIndex := 58, descriptorIndex := 54, attributes := #[] }, { accessFlags := 1, nameIndex := 59, descriptorIndex := 60, attributes := #[] }] 49 2 #[] #[{ accessFlags := 18, nameIndex := 11, descriptorIndex := 12, attributes := #[] }, { accessFlags := 18, nameIndex := 15, descriptorIndex := 12, attributes := #[] }, { accessFlags := 18, nameIndex := 18, descriptorIndex := 19, attributes := #[] }, { accessFlags := 18, nameIndex := 22, descriptorIndex := 12, attributes := #[] }, { accessFlags := 18, nameIndex := 25, descriptorIndex := 26, attributes := #[] }])
  fields := #[{ name := "user", type := (.object "java/lang/String"), accessFlags := 18, slot := 0, constantValue := 0 }, { name := "path", type := (.object "java/lang/String"), accessFlags := 18, slot := 1, constantValue := 0 }, { name := "superuser", type := .boolean, accessFlags := 18, slot := 2, constantValue := 0 }, { name := "ownedPath", type := (.object "java/lang/String"), accessFlags := 18, slot := 3, constantValue := 0 }, { name := "grant", type := (.object "com/example/bailiwick/bailiwick/resource/Grant"), accessFlags := 18, slot := 4, constantValue := 0 }]
  methods := #[k12m0, k12m1, k12m2, k12m3, k12m4, k12m5, k12m6, k12m7]
  instanceTypes := #[(.object "java/lang/String"), (.object "java/lang/String"), .boolean, (.object "java/lang/String"), (.object "com/example/bailiwick/bailiwick/resource/Grant")]
  staticTypes := #[]
  resolved := Array.replicate 63 none
  statics := none }

def pool13 : Array CpInfo := pool [(1, .methodref 2 3), (0, .class_ 4), (0, .nameAndType 5 6), (0, u "java/lang/Object"), (0, u "<init>"), (0, u "()V"), (0, .fieldref 8 9), (0, .class_ 10), (0, .nameAndType 11 12), (0, u "com/example/bailiwick/bailiwick/resource/Grant"), (0, u "kind"), (0, u "Ljava/lang/String;"), (0, .fieldref 8 14), (0, .nameAndType 15 12), (0, u "name"), (0, .fieldref 8 17), (0, .nameAndType 18 12), (0, u "path"), (0, .fieldref 8 20), (0, .nameAndType 21 22), (0, u "level"), (0, u "Lcom/example/bailiwick/bailiwick/resource/AccessLevel;"), (18, u "KINDS"), (0, u "Ljava/util/List;"), (28, u "USER"), (1, u "ROLE"), (0, u "GROUP"), (0, u "SUBJECT_SEPARATOR"), (0, u "C"), (1, u "SUBJECT_FORMS"), (4, u "(Ljava/lang/String;Ljava/lang/String;Ljava/lang/String;Lcom/example/bailiwick/bailiwick/resource/AccessLevel;)V"), (13, u "getLevel"), (0, u "()Lcom/example/bailiwick/bailiwick/resource/AccessLevel;")] 18

def k13c0 : Code := { maxStack := 2, maxLocals := 5, code := prog_17_method_1_code, exceptionTable := #[], attributes := #[] }
def k13m0 : Method := { name := "<init>", desc := "(Ljava/lang/String;Ljava/lang/String;Ljava/lang/String;Lcom/example/bailiwick/bailiwick/resource/AccessLevel;)V", sig := { parameters := [(.object "java/lang/String"), (.object "java/lang/String"), (.object "java/lang/String"), (.object "com/example/bailiwick/bailiwick/resource/AccessLevel")], returnType := none }, accessFlags := 1, code := some k13c0 }
def k13c1 : Code := { maxStack := 1, maxLocals := 1, code := prog_17_method_8_code, exceptionTable := #[], attributes := #[] }
def k13m1 : Method := { name := "getLevel", desc := "()Lcom/example/bailiwick/bailiwick/resource/AccessLevel;", sig := { parameters := [], returnType := some (.object "com/example/bailiwick/bailiwick/resource/AccessLevel") }, accessFlags := 1, code := some k13c1 }
/-- com/example/bailiwick/bailiwick/resource/Grant -/
def k13 : Class := { plain "com/example/bailiwick/bailiwick/resource/Grant" (some 0) with
  accessFlags := 49
  interfaces := #[]
  cf := some (fileOf pool13 8 #[] #[{ accessFlags := 1, nameIndex := 5, descriptorIndex := 83, attributes := #[] }, { accessFlags := 1, nameIndex := 97, descriptorIndex := 98, attributes := #[] }] 49 2 #[] #[{ accessFlags := 25, nameIndex := 71, descriptorIndex := 12, attributes := #[] }, { accessFlags := 25, nameIndex := 73, descriptorIndex := 12, attributes := #[] }, { accessFlags := 25, nameIndex := 74, descriptorIndex := 12, attributes := #[] }, { accessFlags := 25, nameIndex := 75, descriptorIndex := 76, attributes := #[] }, { accessFlags := 25, nameIndex := 78, descriptorIndex := 12, attributes := #[] }, { accessFlags := 26, nameIndex := 41, descriptorIndex := 42, attributes := #[] }, { accessFlags := 18, nameIndex := 11, descriptorIndex := 12, attributes := #[] }, { accessFlags := 18, nameIndex := 15, descriptorIndex := 12, attributes := #[] }, { accessFlags := 18, nameIndex := 18, descriptorIndex := 12, attributes := #[] }, { accessFlags := 18, nameIndex := 21, descriptorIndex := 22, attributes := #[] }])
  fields := #[{ name := "USER", type := (.object "java/lang/String"), accessFlags := 25, slot := 0, constantValue := 0 }, { name := "ROLE", type := (.object "java/lang/String"), accessFlags := 25, slot := 1, constantValue := 0 }, { name := "GROUP", type := (.object "java/lang/String"), accessFlags := 25, slot := 2, constantValue := 0 }, { name := "SUBJECT_SEPARATOR", type := .char, accessFlags := 25, slot := 3, constantValue := 0 }, { name := "SUBJECT_FORMS", type := (.object "java/lang/String"), accessFlags := 25, slot := 4, constantValue := 0 }, { name := "KINDS", type := (.object "java/util/List"), accessFlags := 26, slot := 5, constantValue := 0 }, { name := "kind", type := (.object "java/lang/String"), accessFlags := 18, slot := 0, constantValue := 0 }, { name := "name", type := (.object "java/lang/String"), accessFlags := 18, slot := 1, constantValue := 0 }, { name := "path", type := (.object "java/lang/String"), accessFlags := 18, slot := 2, constantValue := 0 }, { name := "level", type := (.object "com/example/bailiwick/bailiwick/resource/AccessLevel"), accessFlags := 18, slot := 3, constantValue := 0 }]
  methods := #[k13m0, k13m1]
  instanceTypes := #[(.object "java/lang/String"), (.object "java/lang/String"), (.object "java/lang/String"), (.object "com/example/bailiwick/bailiwick/resource/AccessLevel")]
  staticTypes := #[(.object "java/lang/String"), (.object "java/lang/String"), (.object "java/lang/String"), .char, (.object "java/lang/String"), (.object "java/util/List")]
  resolved := Array.replicate 117 none
  statics := none }

def pool14 : Array CpInfo := pool [(2, .class_ 4), (1, u "java/lang/Object"), (0, u "<init>"), (0, u "()V"), (17, .class_ 26), (1, u "jdk/internal/util/Preconditions"), (28, .class_ 56), (0, u "jdk/internal/util/Preconditions$4"), (57, .class_ 115), (0, u "jdk/internal/util/Preconditions$1"), (7, u "SIOOBE_FORMATTER"), (0, u "Ljava/util/function/BiFunction;"), (0, .class_ 126), (0, u "jdk/internal/util/Preconditions$2"), (3, u "AIOOBE_FORMATTER"), (0, .class_ 132), (0, u "jdk/internal/util/Preconditions$3"), (3, u "IOOBE_FORMATTER")] 57

def k14m0 : Method := { name := "<init>", desc := "()V", sig := { parameters := [], returnType := none }, accessFlags := 1, code := none }
/-- jdk/internal/util/Preconditions -/
def k14 : Class := { plain "jdk/internal/util/Preconditions" (some 0) with
  accessFlags := 33
  interfaces := #[]
  cf := some (fileOf pool14 24 #[.nestMembers #[55, 131, 125, 114]] #[{ accessFlags := 1, nameIndex := 5, descriptorIndex := 6, attributes := #[] }] 33 2 #[] #[{ accessFlags := 25, nameIndex := 123, descriptorIndex := 124, attributes := #[] }, { accessFlags := 25, nameIndex := 130, descriptorIndex := 124, attributes := #[] }, { accessFlags := 25, nameIndex := 136, descriptorIndex := 124, attributes := #[] }])
  fields := #[{ name := "SIOOBE_FORMATTER", type := (.object "java/util/function/BiFunction"), accessFlags := 25, slot := 0, constantValue := 0 }, { name := "AIOOBE_FORMATTER", type := (.object "java/util/function/BiFunction"), accessFlags := 25, slot := 1, constantValue := 0 }, { name := "IOOBE_FORMATTER", type := (.object "java/util/function/BiFunction"), accessFlags := 25, slot := 2, constantValue := 0 }]
  methods := #[k14m0]
  instanceTypes := #[]
  staticTypes := #[(.object "java/util/function/BiFunction"), (.object "java/util/function/BiFunction"), (.object "java/util/function/BiFunction")]
  resolved := Array.replicate 194 none
  statics := some 2 }

def pool15 : Array CpInfo := pool [(9, u "<init>"), (6, .class_ 18), (1, u "java/lang/Object"), (0, u "()V"), (1, .class_ 23), (1, u "jdk/internal/util/ArraysSupport"), (0, u "LOG2_ARRAY_LONG_INDEX_SCALE"), (0, u "I"), (2, u "U"), (0, u "Ljdk/internal/misc/Unsafe;"), (8, u "BIG_ENDIAN"), (0, u "Z"), (8, u "LOG2_BYTE_BIT_SIZE"), (4, u "LOG2_ARRAY_INT_INDEX_SCALE"), (54, u "JLA"), (0, u "Ljdk/internal/access/JavaLangAccess;"), (11, u "LOG2_ARRAY_BOOLEAN_INDEX_SCALE"), (9, u "LOG2_ARRAY_BYTE_INDEX_SCALE"), (5, u "LOG2_ARRAY_CHAR_INDEX_SCALE"), (5, u "LOG2_ARRAY_SHORT_INDEX_SCALE"), (18, u "LOG2_ARRAY_FLOAT_INDEX_SCALE"), (24, u "LOG2_ARRAY_DOUBLE_INDEX_SCALE"), (89, u "T_BOOLEAN"), (2, u "T_CHAR"), (1, u "T_FLOAT"), (1, u "T_DOUBLE"), (1, u "T_BYTE"), (1, u "T_SHORT"), (1, u "T_INT"), (1, u "T_LONG"), (1, u "SOFT_MAX_ARRAY_LENGTH")] 83

def k15m0 : Method := { name := "<init>", desc := "()V", sig := { parameters := [], returnType := none }, accessFlags := 2, code := none }
/-- jdk/internal/util/ArraysSupport -/
def k15 : Class := { plain "jdk/internal/util/ArraysSupport" (some 0) with
  accessFlags := 33
  interfaces := #[]
  cf := some (fileOf pool15 21 #[] #[{ accessFlags := 2, nameIndex := 9, descriptorIndex := 19, attributes := #[] }] 33 16 #[] #[{ accessFlags := 24, nameIndex := 28, descriptorIndex := 29, attributes := #[] }, { accessFlags := 26, nameIndex := 38, descriptorIndex := 39, attributes := #[] }, { accessFlags := 25, nameIndex := 121, descriptorIndex := 25, attributes := #[] }, { accessFlags := 25, nameIndex := 131, descriptorIndex := 25, attributes := #[] }, { accessFlags := 25, nameIndex := 137, descriptorIndex := 25, attributes := #[] }, { accessFlags := 25, nameIndex := 143, descriptorIndex := 25, attributes := #[] }, { accessFlags := 25, nameIndex := 53, descriptorIndex := 25, attributes := #[] }, { accessFlags := 25, nameIndex := 24, descriptorIndex := 25, attributes := #[] }, { accessFlags := 25, nameIndex := 162, descriptorIndex := 25, attributes := #[] }, { accessFlags := 25, nameIndex := 187, descriptorIndex := 25, attributes := #[] }, { accessFlags := 26, nameIndex := 48, descriptorIndex := 25, attributes := #[] }, { accessFlags := 25, nameIndex := 277, descriptorIndex := 25, attributes := #[] }, { accessFlags := 25, nameIndex := 280, descriptorIndex := 25, attributes := #[] }, { accessFlags := 25, nameIndex := 282, descriptorIndex := 25, attributes := #[] }, { accessFlags := 25, nameIndex := 284, descriptorIndex := 25, attributes := #[] }, { accessFlags := 25, nameIndex := 286, descriptorIndex := 25, attributes := #[] }, { accessFlags := 25, nameIndex := 288, descriptorIndex := 25, attributes := #[] }, { accessFlags := 25, nameIndex := 290, descriptorIndex := 25, attributes := #[] }, { accessFlags := 25, nameIndex := 292, descriptorIndex := 25, attributes := #[] }, { accessFlags := 26, nameIndex := 108, descriptorIndex := 109, attributes := #[] }, { accessFlags := 25, nameIndex := 294, descriptorIndex := 25, attributes := #[] }])
  fields := #[{ name := "U", type := (.object "jdk/internal/misc/Unsafe"), accessFlags := 24, slot := 0, constantValue := 0 }, { name := "BIG_ENDIAN", type := .boolean, accessFlags := 26, slot := 1, constantValue := 0 }, { name := "LOG2_ARRAY_BOOLEAN_INDEX_SCALE", type := .int, accessFlags := 25, slot := 2, constantValue := 0 }, { name := "LOG2_ARRAY_BYTE_INDEX_SCALE", type := .int, accessFlags := 25, slot := 3, constantValue := 0 }, { name := "LOG2_ARRAY_CHAR_INDEX_SCALE", type := .int, accessFlags := 25, slot := 4, constantValue := 0 }, { name := "LOG2_ARRAY_SHORT_INDEX_SCALE", type := .int, accessFlags := 25, slot := 5, constantValue := 0 }, { name := "LOG2_ARRAY_INT_INDEX_SCALE", type := .int, accessFlags := 25, slot := 6, constantValue := 0 }, { name := "LOG2_ARRAY_LONG_INDEX_SCALE", type := .int, accessFlags := 25, slot := 7, constantValue := 0 }, { name := "LOG2_ARRAY_FLOAT_INDEX_SCALE", type := .int, accessFlags := 25, slot := 8, constantValue := 0 }, { name := "LOG2_ARRAY_DOUBLE_INDEX_SCALE", type := .int, accessFlags := 25, slot := 9, constantValue := 0 }, { name := "LOG2_BYTE_BIT_SIZE", type := .int, accessFlags := 26, slot := 10, constantValue := 0 }, { name := "T_BOOLEAN", type := .int, accessFlags := 25, slot := 11, constantValue := 0 }, { name := "T_CHAR", type := .int, accessFlags := 25, slot := 12, constantValue := 0 }, { name := "T_FLOAT", type := .int, accessFlags := 25, slot := 13, constantValue := 0 }, { name := "T_DOUBLE", type := .int, accessFlags := 25, slot := 14, constantValue := 0 }, { name := "T_BYTE", type := .int, accessFlags := 25, slot := 15, constantValue := 0 }, { name := "T_SHORT", type := .int, accessFlags := 25, slot := 16, constantValue := 0 }, { name := "T_INT", type := .int, accessFlags := 25, slot := 17, constantValue := 0 }, { name := "T_LONG", type := .int, accessFlags := 25, slot := 18, constantValue := 0 }, { name := "JLA", type := (.object "jdk/internal/access/JavaLangAccess"), accessFlags := 26, slot := 19, constantValue := 0 }, { name := "SOFT_MAX_ARRAY_LENGTH", type := .int, accessFlags := 25, slot := 20, constantValue := 0 }]
  methods := #[k15m0]
  instanceTypes := #[]
  staticTypes := #[(.object "jdk/internal/misc/Unsafe"), .boolean, .int, .int, .int, .int, .int, .int, .int, .int, .int, .int, .int, .int, .int, .int, .int, .int, .int, (.object "jdk/internal/access/JavaLangAccess"), .int]
  resolved := Array.replicate 378 none
  statics := none }

def pool16 : Array CpInfo := pool [(1, u "java/lang/Cloneable"), (0, .class_ 1), (0, u "java/lang/Object"), (0, .class_ 3)] 3

/-- java/lang/Cloneable -/
def k16 : Class := { plain "java/lang/Cloneable" (some 0) with
  accessFlags := 1537
  interfaces := #[]
  cf := some (fileOf pool16 2 #[] #[] 1537 4 #[] #[])
  fields := #[]
  methods := #[]
  instanceTypes := #[]
  staticTypes := #[]
  resolved := Array.replicate 8 none
  statics := none }

/-- the primitive byte -/
def k17 : Class := { plain "byte" none with kind := .primitive 'B', accessFlags := 0x411 }
/-- [B -/
def k18 : Class := { plain "[B" (some 0) with kind := .array 17 .byte, interfaces := #[16, 2], accessFlags := 1041 }

/-- the primitive char -/
def k19 : Class := { plain "char" none with kind := .primitive 'C', accessFlags := 0x411 }
/-- [C -/
def k20 : Class := { plain "[C" (some 0) with kind := .array 19 .char, interfaces := #[16, 2], accessFlags := 1041 }

/-- the primitive int -/
def k21 : Class := { plain "int" none with kind := .primitive 'I', accessFlags := 0x411 }
/-- [I -/
def k22 : Class := { plain "[I" (some 0) with kind := .array 21 .int, interfaces := #[16, 2], accessFlags := 1041 }

def heap : Heap := #[{ cls := 7, slots := #[.long 0, .int 1, .null, .int 0, .null, .int 0, .int 0], vm := .statics 7 },
  { cls := 10, slots := #[.ref 4, .ref 3, .ref 5, .ref 6, .null], vm := .statics 10 },
  { cls := 14, slots := #[.null, .null, .null], vm := .statics 14 },
  { cls := 10, slots := #[.null, .int 0, .int 0], vm := .none },
  { cls := 10, slots := #[.null, .int 0, .int 0], vm := .none },
  { cls := 10, slots := #[.null, .int 0, .int 0], vm := .none },
  { cls := 10, slots := #[.null, .int 0, .int 0], vm := .none }]
def classes : Array Class := #[k0, k1, k2, k3, k4, k5, k6, k7, k8, k9, k10, k11, k12, k13, k14, k15, k16, k17, k18, k19, k20, k21, k22]
def interned : List (Array UInt16 × Addr) := []
def slotsUsed : Nat := 27
def theMethod : MethodId := ⟨1, 3⟩
def args0 : Array Value := #[.int 0, .int 0, .int 0, .int 0]
def aboutOver (below : List Frame) : State where
  vm := { classes := classes, interned := interned.toArray }
  heap := heap
  slotsUsed := slotsUsed
  threads := #[{ frames := .invoking theMethod args0 :: below }]
def below0 : List Frame := [.native { method := ⟨0, 0⟩, args := #[] }]
def about1 : State := aboutOver below0
def p0 : Program := .bare "" "" ""
def e0 : Env := launch0.env 0 0 0
theorem w_frames : about1.frames = Frame.invoking theMethod args0 :: below0 := rfl
set_option maxRecDepth 65536 in
theorem w_args : argsFit about1.vm theMethod args0 = true := by decide +kernel
set_option maxRecDepth 65536 in
theorem w_heap : heapFits about1 = true := by decide +kernel
set_option maxRecDepth 65536 in
theorem w_runnable : about1.curStatus? = some .runnable := by decide +kernel
set_option maxRecDepth 65536 in
theorem w_alone : about1.alone = true := by decide +kernel
set_option maxRecDepth 65536 in
theorem w_named : about1.methodNamed? x = some theMethod := by decide +kernel
set_option maxRecDepth 65536 in
theorem w_hears : about1.hears theMethod below0 = true := by decide +kernel
set_option maxRecDepth 65536 in
theorem w_ripe : about1.ripe theMethod args0 below0 = true := by decide +kernel
theorem w_running : about1.status = .running := rfl
set_option maxRecDepth 65536 in
theorem w_room : about1.hasRoom e0.platform room_1 = true :=
  launch0.hasRoom_least _ room_1 (by decide +kernel) (by decide +kernel) (by decide +kernel) (by decide +kernel) (by decide +kernel) (by decide +kernel)
theorem allAtoms_all (ts : List Jvm.Cond) (a : Array Jvm.Value) (st : Jvm.State) : (allAtoms ts).before a st = ts.all (fun c => c.before a st) := by
  induction ts with
  | nil => rfl
  | cons c t ih =>
    show (Jvm.Cond.and c (allAtoms t)).before a st = _
    rw [Jvm.Cond.before_and, ih, List.all_cons]
def words1 : List Jvm.Cond := Jvm.Cond.code x code maxLocals ret :: tables_1
/-- a 'code' word, met by the world's own term for the bytes: nothing is compared byte by byte -/
theorem code_word {y : MethodName} {bytes : ByteArray} {mx : Nat} {rt : Option FieldType} {a : Array Value} {s : State} {m : MethodId} {meth : Method} {c : Code} (h1 : s.methodNamed? y = some m) (h2 : s.vm.method? m = some meth) (h3 : meth.code = some c) (h4 : c.code = bytes)
    (h5 : (c.maxLocals == mx && c.exceptionTable.isEmpty && decide (c.maxStack ≤ mostOperands) && decide (meth.sig.returnType = rt) && !meth.locks && decide (parseMethodDescriptor y.desc = some meth.sig)) = true) : (Jvm.Cond.code y bytes mx rt).before a s = true := by
  simp only [Bool.and_eq_true, beq_iff_eq, Bool.not_eq_true', decide_eq_true_eq] at h5
  obtain ⟨⟨⟨⟨⟨g1, g2⟩, g3⟩, g4⟩, g5⟩, g6⟩ := h5
  simp [Cond.before, Cond.holds, Cond.value, h1, h2, h3, h4, g1, g2, g3, g4, g5, g6]
def isCode : Jvm.Cond → Bool
  | .code _ _ _ _ => true
  | _ => false
theorem all_split {L : List Jvm.Cond} {P : Jvm.Cond → Bool} (h1 : L.all (fun c => isCode c || P c) = true) (h2 : ∀ c ∈ L.filter isCode, P c = true) : L.all P = true := by
  refine List.all_eq_true.mpr fun c hc => ?_
  have h := List.all_eq_true.mp h1 c hc
  rcases Bool.eq_false_or_eq_true (isCode c) with hi | hi
  · exact h2 c (List.mem_filter.mpr ⟨hc, hi⟩)
  · simpa [hi] using h
set_option maxRecDepth 65536 in
theorem w_c0 : (Jvm.Cond.code x code maxLocals ret).before args0 about1 = true := code_word (m := ⟨1, 3⟩) (meth := k1m3) (c := k1c3) (by decide +kernel) rfl rfl rfl (by decide +kernel)
set_option maxRecDepth 65536 in
theorem w_c1 : (Jvm.Cond.code ({ cls := "java/lang/String", name := "<init>", desc := "([C)V" } : Jvm.MethodName) jdk_42_method_3_code (2 : Nat) (Option.none : Option Jvm.ClassFile.FieldType)).before args0 about1 = true := code_word (m := ⟨7, 1⟩) (meth := k7m1) (c := k7c1) (by decide +kernel) rfl rfl rfl (by decide +kernel)
set_option maxRecDepth 65536 in
theorem w_c2 : (Jvm.Cond.code ({ cls := "java/lang/String", name := "<init>", desc := "([CIILjava/lang/Void;)V" } : Jvm.MethodName) jdk_42_method_149_code (6 : Nat) (Option.none : Option Jvm.ClassFile.FieldType)).before args0 about1 = true := code_word (m := ⟨7, 4⟩) (meth := k7m4) (c := k7c4) (by decide +kernel) rfl rfl rfl (by decide +kernel)
set_option maxRecDepth 65536 in
theorem w_c3 : (Jvm.Cond.code ({ cls := "java/lang/Object", name := "<init>", desc := "()V" } : Jvm.MethodName) object_method_1_code (1 : Nat) (Option.none : Option Jvm.ClassFile.FieldType)).before args0 about1 = true := code_word (m := ⟨0, 0⟩) (meth := k0m0) (c := k0c0) (by decide +kernel) rfl rfl rfl (by decide +kernel)
set_option maxRecDepth 65536 in
theorem w_c4 : (Jvm.Cond.code ({ cls := "java/lang/StringUTF16", name := "compress", desc := "([CII)[B" } : Jvm.MethodName) jdk_52_method_16_code (6 : Nat) (Option.some (Jvm.ClassFile.FieldType.array Jvm.ClassFile.FieldType.byte))).before args0 about1 = true := code_word (m := ⟨8, 2⟩) (meth := k8m2) (c := k8c2) (by decide +kernel) rfl rfl rfl (by decide +kernel)
set_option maxRecDepth 65536 in
theorem w_c5 : (Jvm.Cond.code ({ cls := "java/lang/StringUTF16", name := "compress", desc := "([CI[BII)I" } : Jvm.MethodName) jdk_52_method_21_code (7 : Nat) (Option.some Jvm.ClassFile.FieldType.int)).before args0 about1 = true := code_word (m := ⟨8, 3⟩) (meth := k8m3) (c := k8c3) (by decide +kernel) rfl rfl rfl (by decide +kernel)
set_option maxRecDepth 65536 in
theorem w_c6 : (Jvm.Cond.code ({ cls := "java/lang/StringUTF16", name := "coderFromArrayLen", desc := "([BI)B" } : Jvm.MethodName) jdk_52_method_15_code (2 : Nat) (Option.some Jvm.ClassFile.FieldType.byte)).before args0 about1 = true := code_word (m := ⟨8, 1⟩) (meth := k8m1) (c := k8c1) (by decide +kernel) rfl rfl rfl (by decide +kernel)
set_option maxRecDepth 65536 in
theorem w_c7 : (Jvm.Cond.code ({ cls := "com/example/bailiwick/bailiwick/policy/AccessExplanationGrantedPinLaw", name := "level", desc := "(I)Lcom/example/bailiwick/bailiwick/resource/AccessLevel;" } : Jvm.MethodName) method_2_code (1 : Nat) (Option.some (Jvm.ClassFile.FieldType.object "com/example/bailiwick/bailiwick/resource/AccessLevel"))).before args0 about1 = true := code_word (m := ⟨1, 1⟩) (meth := k1m1) (c := k1c1) (by decide +kernel) rfl rfl rfl (by decide +kernel)
set_option maxRecDepth 65536 in
theorem w_c8 : (Jvm.Cond.code ({ cls := "com/example/bailiwick/bailiwick/policy/AccessExplanationGrantedPinLaw", name := "kind", desc := "(I)Ljava/lang/String;" } : Jvm.MethodName) method_3_code (1 : Nat) (Option.some (Jvm.ClassFile.FieldType.object "java/lang/String"))).before args0 about1 = true := code_word (m := ⟨1, 2⟩) (meth := k1m2) (c := k1c2) (by decide +kernel) rfl rfl rfl (by decide +kernel)
set_option maxRecDepth 65536 in
theorem w_c9 : (Jvm.Cond.code ({ cls := "java/lang/String", name := "valueOf", desc := "(C)Ljava/lang/String;" } : Jvm.MethodName) jdk_42_method_139_code (1 : Nat) (Option.some (Jvm.ClassFile.FieldType.object "java/lang/String"))).before args0 about1 = true := code_word (m := ⟨7, 3⟩) (meth := k7m3) (c := k7c3) (by decide +kernel) rfl rfl rfl (by decide +kernel)
set_option maxRecDepth 65536 in
theorem w_c10 : (Jvm.Cond.code ({ cls := "java/lang/StringLatin1", name := "canEncode", desc := "(C)Z" } : Jvm.MethodName) jdk_43_method_3_code (1 : Nat) (Option.some Jvm.ClassFile.FieldType.boolean)).before args0 about1 = true := code_word (m := ⟨11, 1⟩) (meth := k11m1) (c := k11c1) (by decide +kernel) rfl rfl rfl (by decide +kernel)
set_option maxRecDepth 65536 in
theorem w_c11 : (Jvm.Cond.code ({ cls := "java/lang/StringLatin1", name := "toBytes", desc := "(C)[B" } : Jvm.MethodName) jdk_43_method_46_code (1 : Nat) (Option.some (Jvm.ClassFile.FieldType.array Jvm.ClassFile.FieldType.byte))).before args0 about1 = true := code_word (m := ⟨11, 2⟩) (meth := k11m2) (c := k11c2) (by decide +kernel) rfl rfl rfl (by decide +kernel)
set_option maxRecDepth 65536 in
theorem w_c12 : (Jvm.Cond.code ({ cls := "java/lang/String", name := "<init>", desc := "([BB)V" } : Jvm.MethodName) jdk_42_method_151_code (3 : Nat) (Option.none : Option Jvm.ClassFile.FieldType)).before args0 about1 = true := code_word (m := ⟨7, 5⟩) (meth := k7m5) (c := k7c5) (by decide +kernel) rfl rfl rfl (by decide +kernel)
set_option maxRecDepth 65536 in
theorem w_c13 : (Jvm.Cond.code ({ cls := "com/example/bailiwick/bailiwick/policy/AccessExplanation", name := "granted", desc := "(Ljava/lang/String;Ljava/lang/String;Lcom/example/bailiwick/bailiwick/resource/Grant;)Lcom/example/bailiwick/bailiwick/policy/AccessExplanation;" } : Jvm.MethodName) prog_9_method_4_code (3 : Nat) (Option.some (Jvm.ClassFile.FieldType.object "com/example/bailiwick/bailiwick/policy/AccessExplanation"))).before args0 about1 = true := code_word (m := ⟨12, 1⟩) (meth := k12m1) (c := k12c1) (by decide +kernel) rfl rfl rfl (by decide +kernel)
set_option maxRecDepth 65536 in
theorem w_c14 : (Jvm.Cond.code ({ cls := "com/example/bailiwick/bailiwick/policy/AccessExplanation", name := "<init>", desc := "(Ljava/lang/String;Ljava/lang/String;ZLjava/lang/String;Lcom/example/bailiwick/bailiwick/resource/Grant;)V" } : Jvm.MethodName) prog_9_method_1_code (6 : Nat) (Option.none : Option Jvm.ClassFile.FieldType)).before args0 about1 = true := code_word (m := ⟨12, 0⟩) (meth := k12m0) (c := k12c0) (by decide +kernel) rfl rfl rfl (by decide +kernel)
set_option maxRecDepth 65536 in
theorem w_c15 : (Jvm.Cond.code ({ cls := "com/example/bailiwick/bailiwick/policy/AccessExplanation", name := "getUser", desc := "()Ljava/lang/String;" } : Jvm.MethodName) prog_9_method_6_code (1 : Nat) (Option.some (Jvm.ClassFile.FieldType.object "java/lang/String"))).before args0 about1 = true := code_word (m := ⟨12, 3⟩) (meth := k12m3) (c := k12c3) (by decide +kernel) rfl rfl rfl (by decide +kernel)
set_option maxRecDepth 65536 in
theorem w_c16 : (Jvm.Cond.code ({ cls := "java/lang/String", name := "equals", desc := "(Ljava/lang/Object;)Z" } : Jvm.MethodName) jdk_42_method_66_code (3 : Nat) (Option.some Jvm.ClassFile.FieldType.boolean)).before args0 about1 = true := code_word (m := ⟨7, 2⟩) (meth := k7m2) (c := k7c2) (by decide +kernel) rfl rfl rfl (by decide +kernel)
set_option maxRecDepth 65536 in
theorem w_c17 : (Jvm.Cond.code ({ cls := "com/example/bailiwick/bailiwick/policy/AccessExplanation", name := "getPath", desc := "()Ljava/lang/String;" } : Jvm.MethodName) prog_9_method_7_code (1 : Nat) (Option.some (Jvm.ClassFile.FieldType.object "java/lang/String"))).before args0 about1 = true := code_word (m := ⟨12, 4⟩) (meth := k12m4) (c := k12c4) (by decide +kernel) rfl rfl rfl (by decide +kernel)
set_option maxRecDepth 65536 in
theorem w_c18 : (Jvm.Cond.code ({ cls := "com/example/bailiwick/bailiwick/policy/AccessExplanation", name := "isSuperuser", desc := "()Z" } : Jvm.MethodName) prog_9_method_8_code (1 : Nat) (Option.some Jvm.ClassFile.FieldType.boolean)).before args0 about1 = true := code_word (m := ⟨12, 5⟩) (meth := k12m5) (c := k12c5) (by decide +kernel) rfl rfl rfl (by decide +kernel)
set_option maxRecDepth 65536 in
theorem w_c19 : (Jvm.Cond.code ({ cls := "com/example/bailiwick/bailiwick/policy/AccessExplanation", name := "getOwnedPath", desc := "()Ljava/lang/String;" } : Jvm.MethodName) prog_9_method_9_code (1 : Nat) (Option.some (Jvm.ClassFile.FieldType.object "java/lang/String"))).before args0 about1 = true := code_word (m := ⟨12, 6⟩) (meth := k12m6) (c := k12c6) (by decide +kernel) rfl rfl rfl (by decide +kernel)
set_option maxRecDepth 65536 in
theorem w_c20 : (Jvm.Cond.code ({ cls := "com/example/bailiwick/bailiwick/policy/AccessExplanation", name := "getGrant", desc := "()Lcom/example/bailiwick/bailiwick/resource/Grant;" } : Jvm.MethodName) prog_9_method_10_code (1 : Nat) (Option.some (Jvm.ClassFile.FieldType.object "com/example/bailiwick/bailiwick/resource/Grant"))).before args0 about1 = true := code_word (m := ⟨12, 7⟩) (meth := k12m7) (c := k12c7) (by decide +kernel) rfl rfl rfl (by decide +kernel)
set_option maxRecDepth 65536 in
theorem w_c21 : (Jvm.Cond.code ({ cls := "com/example/bailiwick/bailiwick/policy/AccessExplanation", name := "getLevel", desc := "()Lcom/example/bailiwick/bailiwick/resource/AccessLevel;" } : Jvm.MethodName) prog_9_method_5_code (2 : Nat) (Option.some (Jvm.ClassFile.FieldType.object "com/example/bailiwick/bailiwick/resource/AccessLevel"))).before args0 about1 = true := code_word (m := ⟨12, 2⟩) (meth := k12m2) (c := k12c2) (by decide +kernel) rfl rfl rfl (by decide +kernel)
set_option maxRecDepth 65536 in
theorem w_c22 : (Jvm.Cond.code ({ cls := "com/example/bailiwick/bailiwick/resource/Grant", name := "<init>", desc := "(Ljava/lang/String;Ljava/lang/String;Ljava/lang/String;Lcom/example/bailiwick/bailiwick/resource/AccessLevel;)V" } : Jvm.MethodName) prog_17_method_1_code (5 : Nat) (Option.none : Option Jvm.ClassFile.FieldType)).before args0 about1 = true := code_word (m := ⟨13, 0⟩) (meth := k13m0) (c := k13c0) (by decide +kernel) rfl rfl rfl (by decide +kernel)
set_option maxRecDepth 65536 in
theorem w_c23 : (Jvm.Cond.code ({ cls := "com/example/bailiwick/bailiwick/resource/Grant", name := "getLevel", desc := "()Lcom/example/bailiwick/bailiwick/resource/AccessLevel;" } : Jvm.MethodName) prog_17_method_8_code (1 : Nat) (Option.some (Jvm.ClassFile.FieldType.object "com/example/bailiwick/bailiwick/resource/AccessLevel"))).before args0 about1 = true := code_word (m := ⟨13, 1⟩) (meth := k13m1) (c := k13c1) (by decide +kernel) rfl rfl rfl (by decide +kernel)
def codes1 : List Jvm.Cond := [Jvm.Cond.code x code maxLocals ret, Jvm.Cond.code ({ cls := "java/lang/String", name := "<init>", desc := "([C)V" } : Jvm.MethodName) jdk_42_method_3_code (2 : Nat) (Option.none : Option Jvm.ClassFile.FieldType), Jvm.Cond.code ({ cls := "java/lang/String", name := "<init>", desc := "([CIILjava/lang/Void;)V" } : Jvm.MethodName) jdk_42_method_149_code (6 : Nat) (Option.none : Option Jvm.ClassFile.FieldType), Jvm.Cond.code ({ cls := "java/lang/Object", name := "<init>", desc := "()V" } : Jvm.MethodName) object_method_1_code (1 : Nat) (Option.none : Option Jvm.ClassFile.FieldType), Jvm.Cond.code ({ cls := "java/lang/StringUTF16", name := "compress", desc := "([CII)[B" } : Jvm.MethodName) jdk_52_method_16_code (6 : Nat) (Option.some (Jvm.ClassFile.FieldType.array Jvm.ClassFile.FieldType.byte)), Jvm.Cond.code ({ cls := "java/lang/StringUTF16", name := "compress", desc := "([CI[BII)I" } : Jvm.MethodName) jdk_52_method_21_code (7 : Nat) (Option.some Jvm.ClassFile.FieldType.int), Jvm.Cond.code ({ cls := "java/lang/StringUTF16", name := "coderFromArrayLen", desc := "([BI)B" } : Jvm.MethodName) jdk_52_method_15_code (2 : Nat) (Option.some Jvm.ClassFile.FieldType.byte), Jvm.Cond.code ({ cls := "com/example/bailiwick/bailiwick/policy/AccessExplanationGrantedPinLaw", name := "level", desc := "(I)Lcom/example/bailiwick/bailiwick/resource/AccessLevel;" } : Jvm.MethodName) method_2_code (1 : Nat) (Option.some (Jvm.ClassFile.FieldType.object "com/example/bailiwick/bailiwick/resource/AccessLevel")), Jvm.Cond.code ({ cls := "com/example/bailiwick/bailiwick/policy/AccessExplanationGrantedPinLaw", name := "kind", desc := "(I)Ljava/lang/String;" } : Jvm.MethodName) method_3_code (1 : Nat) (Option.some (Jvm.ClassFile.FieldType.object "java/lang/String")), Jvm.Cond.code ({ cls := "java/lang/String", name := "valueOf", desc := "(C)Ljava/lang/String;" } : Jvm.MethodName) jdk_42_method_139_code (1 : Nat) (Option.some (Jvm.ClassFile.FieldType.object "java/lang/String")), Jvm.Cond.code ({ cls := "java/lang/StringLatin1", name := "canEncode", desc := "(C)Z" } : Jvm.MethodName) jdk_43_method_3_code (1 : Nat) (Option.some Jvm.ClassFile.FieldType.boolean), Jvm.Cond.code ({ cls := "java/lang/StringLatin1", name := "toBytes", desc := "(C)[B" } : Jvm.MethodName) jdk_43_method_46_code (1 : Nat) (Option.some (Jvm.ClassFile.FieldType.array Jvm.ClassFile.FieldType.byte)), Jvm.Cond.code ({ cls := "java/lang/String", name := "<init>", desc := "([BB)V" } : Jvm.MethodName) jdk_42_method_151_code (3 : Nat) (Option.none : Option Jvm.ClassFile.FieldType), Jvm.Cond.code ({ cls := "com/example/bailiwick/bailiwick/policy/AccessExplanation", name := "granted", desc := "(Ljava/lang/String;Ljava/lang/String;Lcom/example/bailiwick/bailiwick/resource/Grant;)Lcom/example/bailiwick/bailiwick/policy/AccessExplanation;" } : Jvm.MethodName) prog_9_method_4_code (3 : Nat) (Option.some (Jvm.ClassFile.FieldType.object "com/example/bailiwick/bailiwick/policy/AccessExplanation")), Jvm.Cond.code ({ cls := "com/example/bailiwick/bailiwick/policy/AccessExplanation", name := "<init>", desc := "(Ljava/lang/String;Ljava/lang/String;ZLjava/lang/String;Lcom/example/bailiwick/bailiwick/resource/Grant;)V" } : Jvm.MethodName) prog_9_method_1_code (6 : Nat) (Option.none : Option Jvm.ClassFile.FieldType), Jvm.Cond.code ({ cls := "com/example/bailiwick/bailiwick/policy/AccessExplanation", name := "getUser", desc := "()Ljava/lang/String;" } : Jvm.MethodName) prog_9_method_6_code (1 : Nat) (Option.some (Jvm.ClassFile.FieldType.object "java/lang/String")), Jvm.Cond.code ({ cls := "java/lang/String", name := "equals", desc := "(Ljava/lang/Object;)Z" } : Jvm.MethodName) jdk_42_method_66_code (3 : Nat) (Option.some Jvm.ClassFile.FieldType.boolean), Jvm.Cond.code ({ cls := "com/example/bailiwick/bailiwick/policy/AccessExplanation", name := "getPath", desc := "()Ljava/lang/String;" } : Jvm.MethodName) prog_9_method_7_code (1 : Nat) (Option.some (Jvm.ClassFile.FieldType.object "java/lang/String")), Jvm.Cond.code ({ cls := "com/example/bailiwick/bailiwick/policy/AccessExplanation", name := "isSuperuser", desc := "()Z" } : Jvm.MethodName) prog_9_method_8_code (1 : Nat) (Option.some Jvm.ClassFile.FieldType.boolean), Jvm.Cond.code ({ cls := "com/example/bailiwick/bailiwick/policy/AccessExplanation", name := "getOwnedPath", desc := "()Ljava/lang/String;" } : Jvm.MethodName) prog_9_method_9_code (1 : Nat) (Option.some (Jvm.ClassFile.FieldType.object "java/lang/String")), Jvm.Cond.code ({ cls := "com/example/bailiwick/bailiwick/policy/AccessExplanation", name := "getGrant", desc := "()Lcom/example/bailiwick/bailiwick/resource/Grant;" } : Jvm.MethodName) prog_9_method_10_code (1 : Nat) (Option.some (Jvm.ClassFile.FieldType.object "com/example/bailiwick/bailiwick/resource/Grant")), Jvm.Cond.code ({ cls := "com/example/bailiwick/bailiwick/policy/AccessExplanation", name := "getLevel", desc := "()Lcom/example/bailiwick/bailiwick/resource/AccessLevel;" } : Jvm.MethodName) prog_9_method_5_code (2 : Nat) (Option.some (Jvm.ClassFile.FieldType.object "com/example/bailiwick/bailiwick/resource/AccessLevel")), Jvm.Cond.code ({ cls := "com/example/bailiwick/bailiwick/resource/Grant", name := "<init>", desc := "(Ljava/lang/String;Ljava/lang/String;Ljava/lang/String;Lcom/example/bailiwick/bailiwick/resource/AccessLevel;)V" } : Jvm.MethodName) prog_17_method_1_code (5 : Nat) (Option.none : Option Jvm.ClassFile.FieldType), Jvm.Cond.code ({ cls := "com/example/bailiwick/bailiwick/resource/Grant", name := "getLevel", desc := "()Lcom/example/bailiwick/bailiwick/resource/AccessLevel;" } : Jvm.MethodName) prog_17_method_8_code (1 : Nat) (Option.some (Jvm.ClassFile.FieldType.object "com/example/bailiwick/bailiwick/resource/AccessLevel"))]
set_option maxRecDepth 65536 in
theorem codes_eq : words1.filter isCode = codes1 := rfl
theorem w_codes : ∀ c ∈ words1.filter isCode, c.before args0 about1 = true := by
  rw [codes_eq]
  intro c hc
  simp only [codes1, List.mem_cons, List.not_mem_nil, or_false] at hc
  rcases hc with rfl | rfl | rfl | rfl | rfl | rfl | rfl | rfl | rfl | rfl | rfl | rfl | rfl | rfl | rfl | rfl | rfl | rfl | rfl | rfl | rfl | rfl | rfl | rfl
  · exact w_c0
  · exact w_c1
  · exact w_c2
  · exact w_c3
  · exact w_c4
  · exact w_c5
  · exact w_c6
  · exact w_c7
  · exact w_c8
  · exact w_c9
  · exact w_c10
  · exact w_c11
  · exact w_c12
  · exact w_c13
  · exact w_c14
  · exact w_c15
  · exact w_c16
  · exact w_c17
  · exact w_c18
  · exact w_c19
  · exact w_c20
  · exact w_c21
  · exact w_c22
  · exact w_c23
set_option maxRecDepth 65536 in
theorem w_t1 : (words1.take 24).all (fun c => isCode c || c.before args0 about1) = true := by decide +kernel
set_option maxRecDepth 65536 in
theorem w_t2 : ((words1.drop 24).take 24).all (fun c => isCode c || c.before args0 about1) = true := by decide +kernel
set_option maxRecDepth 65536 in
theorem w_t3 : (((words1.drop 24).drop 24).take 24).all (fun c => isCode c || c.before args0 about1) = true := by decide +kernel
set_option maxRecDepth 65536 in
theorem w_t4 : ((((words1.drop 24).drop 24).drop 24).take 24).all (fun c => isCode c || c.before args0 about1) = true := by decide +kernel
set_option maxRecDepth 65536 in
theorem w_t5 : (((((words1.drop 24).drop 24).drop 24).drop 24).take 24).all (fun c => isCode c || c.before args0 about1) = true := by decide +kernel
set_option maxRecDepth 65536 in
theorem w_t6 : (((((words1.drop 24).drop 24).drop 24).drop 24).drop 24).all (fun c => isCode c || c.before args0 about1) = true := by decide +kernel
theorem w_tables : (allAtoms (Jvm.Cond.code x code maxLocals ret :: tables_1)).before args0 about1 = true := by
  rw [allAtoms_all]
  show words1.all (fun c => c.before args0 about1) = true
  refine all_split ?_ w_codes
  rw [← List.take_append_drop 24 words1, List.all_append, w_t1, ← List.take_append_drop 24 (words1.drop 24), List.all_append, w_t2, ← List.take_append_drop 24 ((words1.drop 24).drop 24), List.all_append, w_t3, ← List.take_append_drop 24 (((words1.drop 24).drop 24).drop 24), List.all_append, w_t4, ← List.take_append_drop 24 ((((words1.drop 24).drop 24).drop 24).drop 24), List.all_append, w_t5, w_t6]
  rfl
set_option maxRecDepth 65536 in
theorem w_rest : rest_1_c.before args0 about1 = true := by decide +kernel
set_option maxRecDepth 65536 in
theorem w_case : (Jvm.Cond.and given_1 narrow_1).before args0 about1 = true := by decide +kernel
theorem w_applies : (headSpec (Jvm.Cond.code x code maxLocals ret :: tables_1) room_1).applies x e0.platform about1 = true :=
  (Spec.applies_iff w_frames).mpr ⟨w_running, w_runnable, w_alone, w_named, w_hears, w_ripe, w_room, w_tables⟩
theorem atStart : AtStart classFile x code maxLocals ret World_1 tables_1 room_1 Calls_1 rest_1 Pre_1 launch0 p0 e0 about1 theMethod args0 below0 :=
  ⟨lists_1, trivial, launch0.admits_env _ _ _, launch0.least_env, fairChoices_fair.cas, fairChoices_fair.clock, w_frames, w_args, w_heap, w_applies, trivial, w_rest, w_case⟩
end start1
theorem witness_1 : WitnessClaimed_1 := ⟨start1.p0, start1.e0, start1.about1, start1.theMethod, start1.args0, start1.below0, start1.atStart⟩
end Jvm.Pilot.@@N@@
