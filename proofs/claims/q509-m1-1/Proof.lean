import JvmDerived
import JvmDerived.Pilot.@@N@@Statement
import JvmDerived.Pilot.@@N@@Code
set_option linter.unusedVariables false
set_option linter.unusedSimpArgs false
/- laws to paste: Road.backV (cut by pick.py; bodies as the Statement names them) -/
namespace Jvm.Pilot.@@N@@
namespace StrChars
open Jvm Sem ClassFile Op Lib Jvm.Stand Jvm.Free.XT Jvm.Free.ALB Jvm.Free.JM Jvm.Free
open Jvm.Lib.Cold (StaticIs)
/-- a char array whose places are chars -/
def Ch (a : Addr) (A : Cell) (U : State) : Prop := Arr .char a A U ∧ Typed .char A
theorem Ch.mv {a : Addr} {A : Cell} {U U' : State} (h : Ch a A U) (hal : U.vm.Alike U'.vm) (hh : U'.heap = U.heap) : Ch a A U' := ⟨h.1.mv hal hh, h.2⟩
theorem Ch.keep {a : Addr} {A : Cell} {U U' : State} (h : Ch a A U) (hal : U.vm.Alike U'.vm) (hk : U'.heap[a]? = some A) : Ch a A U' := ⟨h.1.keep hal hk, h.2⟩
/-- what place i of a char[]'s cell holds -/
def cv (A : Cell) (i : Nat) : Int32 := match A.slots[i]? with | some (.int x) => x | _ => 0
theorem Ch.get {a : Addr} {A : Cell} {U : State} (h : Ch a A U) {i : Nat} (hi : i < A.slots.size) : A.slots[i]? = some (.int (cv A i)) := by
  have e := Array.getElem?_eq_getElem hi
  have f := h.2 i _ e
  unfold cv; rw [e]
  generalize A.slots[i] = v at f
  cases v <;> simp [fits] at f ⊢
/-- the byte that i2b leaves of a char -/
def lo8 (x : Int32) : Int32 := x.toInt8.toInt32
theorem fits_lo8 (y : Int32) : fits .byte (.int (lo8 y)) = true := by
  have h1 := y.toInt8.le_toInt
  have h2 := y.toInt8.toInt_lt
  simp only [lo8, fits, Bool.and_eq_true, decide_eq_true_eq, Int32.le_iff_toInt_le, Int8.toInt_toInt32, show (-128 : Int32).toInt = -128 from by decide, show (127 : Int32).toInt = 127 from by decide]
  omega
/-- A' is A but that each place j of lo .. hi - 1 holds f j -/
def Laid (A A' : Cell) (lo hi : Nat) (f : Nat → Value) : Prop := A'.cls = A.cls ∧ A'.vm = A.vm ∧ A'.slots.size = A.slots.size ∧ ∀ i, A'.slots[i]? = if lo ≤ i ∧ i < hi then some (f i) else A.slots[i]?
theorem Laid.zero (A : Cell) (lo : Nat) (f : Nat → Value) : Laid A A lo (lo + 0) f := ⟨rfl, rfl, rfl, fun i => by rw [if_neg (by omega)]⟩
theorem Laid.step {A Ak : Cell} {lo k : Nat} {f : Nat → Value} {v : Value} (h : Laid A Ak lo k f) (hlo : lo ≤ k) (hk : k < Ak.slots.size) (hv : v = f k) : Laid A (Ak.setSlot k v) lo (k + 1) f := by
  refine ⟨h.1, h.2.1, by simpa [Cell.setSlot] using h.2.2.1, fun i => ?_⟩
  by_cases e : k = i
  · subst e; rw [Cell.slots_setSlot_self v hk, if_pos (by omega), hv]
  · rw [Cell.slots_setSlot_ne v e, h.2.2.2 i]
    by_cases q : lo ≤ i ∧ i < k
    · rw [if_pos q, if_pos (by omega)]
    · rw [if_neg q, if_neg (by omega)]
def U16 : String := "java/lang/StringUTF16"
namespace Cmp5
def yN : MethodName := ⟨"java/lang/StringUTF16", "compress", "([CI[BII)I"⟩
abbrev yB : ByteArray := jdk_52_method_21_code
theorem d0 : decode yB 0 = .ok (.iconst 0, 1) := by decide +kernel
theorem d1 : decode yB 1 = .ok (.istore 5, 2) := by decide +kernel
theorem d3 : decode yB 3 = .ok (.iload 5, 2) := by decide +kernel
theorem d5 : decode yB 5 = .ok (.iload 4, 2) := by decide +kernel
theorem d7 : decode yB 7 = .ok (.if_icmp (.ge) 37, 3) := by decide +kernel
theorem d10 : decode yB 10 = .ok (.aload_n 0, 1) := by decide +kernel
theorem d11 : decode yB 11 = .ok (.iload_n 1, 1) := by decide +kernel
theorem d12 : decode yB 12 = .ok (.caload, 1) := by decide +kernel
theorem d13 : decode yB 13 = .ok (.istore 6, 2) := by decide +kernel
theorem d15 : decode yB 15 = .ok (.iload 6, 2) := by decide +kernel
theorem d17 : decode yB 17 = .ok (.sipush 255, 3) := by decide +kernel
theorem d20 : decode yB 20 = .ok (.if_icmp (.le) 6, 3) := by decide +kernel
theorem d26 : decode yB 26 = .ok (.aload_n 2, 1) := by decide +kernel
theorem d27 : decode yB 27 = .ok (.iload_n 3, 1) := by decide +kernel
theorem d28 : decode yB 28 = .ok (.iload 6, 2) := by decide +kernel
theorem d30 : decode yB 30 = .ok (.i2b, 1) := by decide +kernel
theorem d31 : decode yB 31 = .ok (.bastore, 1) := by decide +kernel
theorem d32 : decode yB 32 = .ok (.iinc 1 1, 3) := by decide +kernel
theorem d35 : decode yB 35 = .ok (.iinc 3 1, 3) := by decide +kernel
theorem d38 : decode yB 38 = .ok (.iinc 5 1, 3) := by decide +kernel
theorem d41 : decode yB 41 = .ok (.goto (-38), 3) := by decide +kernel
theorem d44 : decode yB 44 = .ok (.iload 4, 2) := by decide +kernel
theorem d46 : decode yB 46 = .ok (.ireturn, 1) := by decide +kernel
def site : List Cond := []
def tab : Cond := tabOf yN yB 7 (some .int) site
def P (b : Addr) (A : Cell) (d : Addr) (B : Cell) (o q len : Nat) (args : Array Value) (s : State) : Prop := args = #[.ref b, .int (Int32.ofNat o), .ref d, .int (Int32.ofNat q), .int (Int32.ofNat len)] ∧ Ch b A s ∧ Arr .byte d B s ∧ b ≠ d ∧ o + len ≤ A.slots.size ∧ q + len ≤ B.slots.size ∧ ∀ i, i < len → ¬ 255 < cv A (o + i)
def E (b : Addr) (A : Cell) (d : Addr) (B : Cell) (o q len : Nat) (r : Option Value) (s u : State) : Prop := r = some (.int (Int32.ofNat len)) ∧ ∃ B', Put d B' s u ∧ Laid B B' q (q + len) (fun j => Value.int (lo8 (cv A (o + (j - q)))))
/-- no char of the range above 255: len; the places written hold each char's low byte -/
theorem law (l : Launch) (b : Addr) (A : Cell) (d : Addr) (B : Cell) (o q len : Nat) : Law l yN 5 5 0 0 yB 7 (some .int) site (P b A d B o q len) (E b A d B o q len) (copyLocs d q len) 0 0 := by
  refine Law.of_walk (plainFor_of_name (by decide +kernel)) (by decide +kernel) (by decide +kernel) (by decide) (fun _ _ h => by rw [h.1]; rfl) (fun _ U U' hal hh h => ⟨h.1, h.2.1.mv hal hh, h.2.2.1.mv hal hh, h.2.2.2⟩) (fun r U U' V V' h1 hal h2 h => ⟨h.1, h.2.elim fun B' q => ⟨B', q.1.mv h1 h2, q.2⟩⟩) ?_
  intro p e s m args below meth c s₁ X0 hexec hbytes hml hret hlk hnm hown hh0 W hP
  obtain ⟨rfl, hA, hB, hne, l1, l2, hp⟩ := hP
  have c1 : Steps p.tables e below (s₁.setTop (entryFrame m #[.ref b, .int (Int32.ofNat o), .ref d, .int (Int32.ofNat q), .int (Int32.ofNat len)] 7)) (s₁.setTop (mkF m 0 #[.val (.ref b), .val (.int (Int32.ofNat o)), .val (.ref d), .val (.int (Int32.ofNat q)), .val (.int (Int32.ofNat len)), .unset, .unset] [])) := entry rfl
  have hA0 := hA.1.mv X0.warmed.alike hh0
  have hB0 := hB.mv X0.warmed.alike hh0
  have a31 := hA.1.2.2.2
  have c2 : Steps p.tables e below (s₁.setTop (entryFrame m #[.ref b, .int (Int32.ofNat o), .ref d, .int (Int32.ofNat q), .int (Int32.ofNat len)] 7)) (s₁.setTop (mkF m 3 #[.val (.ref b), .val (.int (Int32.ofNat o)), .val (.ref d), .val (.int (Int32.ofNat q)), .val (.int (Int32.ofNat len)), .val (.int 0), .unset] [])) := c1.trans (by
    refine iconstV X0.here hexec rfl 0 (hb hbytes d0) (by decide) ?_
    refine XS.istore X0.here hexec rfl (hb hbytes d1) rfl rfl ?_
    exact Steps.refl _)
  have loop : ∀ (r i : Nat), i + r = len → ∀ (z : Slot), (z = .unset ∨ ∃ w, z = .val w ∧ w.category = 1) → ∀ (Tl : State) (Bk : Cell), Stand p l e { frames := 0, locals := 0, cells := 0, slots := 0 } s m #[.ref b, .int (Int32.ofNat o), .ref d, .int (Int32.ofNat q), .int (Int32.ofNat len)] below meth c Tl ([] ++ copyLocs d q i) 0 0 → Put d Bk s₁ Tl → Laid B Bk q (q + i) (fun j => Value.int (lo8 (cv A (o + (j - q))))) →
      Steps p.tables e below (s₁.setTop (entryFrame m #[.ref b, .int (Int32.ofNat o), .ref d, .int (Int32.ofNat q), .int (Int32.ofNat len)] 7)) (Tl.setTop (mkF m 3 #[.val (.ref b), .val (.int (Int32.ofNat (o + i))), .val (.ref d), .val (.int (Int32.ofNat (q + i))), .val (.int (Int32.ofNat len)), .val (.int (Int32.ofNat i)), z] [])) → ∃ (T' : State) (B' : Cell) (z' : Slot), Stand p l e { frames := 0, locals := 0, cells := 0, slots := 0 } s m #[.ref b, .int (Int32.ofNat o), .ref d, .int (Int32.ofNat q), .int (Int32.ofNat len)] below meth c T' ([] ++ copyLocs d q len) 0 0 ∧ Put d B' s₁ T' ∧ Laid B B' q (q + len) (fun j => Value.int (lo8 (cv A (o + (j - q))))) ∧
      Steps p.tables e below (s₁.setTop (entryFrame m #[.ref b, .int (Int32.ofNat o), .ref d, .int (Int32.ofNat q), .int (Int32.ofNat len)] 7)) (T'.setTop (mkF m 3 #[.val (.ref b), .val (.int (Int32.ofNat (o + len))), .val (.ref d), .val (.int (Int32.ofNat (q + len))), .val (.int (Int32.ofNat len)), .val (.int (Int32.ofNat len)), z'] [])) := by
    intro r
    induction r with
    | zero =>
      intro i hi z hz Tl Bk Xl pl fl cl
      have hil : i = len := by omega
      rw [hil] at Xl fl cl
      exact ⟨Tl, Bk, z, Xl, pl, fl, cl⟩
    | succ r ih =>
      intro i hi z hz Tl Bk Xl pl fl cl
      have all := X0.warmed.alike.symm.trans Xl.warmed.alike
      have hAl := hA0.keep all (pl.other hne hA0.1)
      have hBk := hB0.like all pl.1 fl.1 fl.2.1 fl.2.2.1
      have hlt : q + i < Bk.slots.size := by rw [fl.2.2.1]; omega
      have c3 : Steps p.tables e below (s₁.setTop (entryFrame m #[.ref b, .int (Int32.ofNat o), .ref d, .int (Int32.ofNat q), .int (Int32.ofNat len)] 7)) (Tl.setTop (mkF m 12 #[.val (.ref b), .val (.int (Int32.ofNat (o + i))), .val (.ref d), .val (.int (Int32.ofNat (q + i))), .val (.int (Int32.ofNat len)), .val (.int (Int32.ofNat i)), z] [.int (Int32.ofNat (o + i)), .ref b])) := cl.trans (by
        refine XS.iload Xl.here hexec rfl (hb hbytes d3) rfl ?_
        refine XS.iload Xl.here hexec rfl (hb hbytes d5) rfl ?_
        refine XS.icmpNo Xl.here hexec rfl (hb hbytes d7) rfl (ii_ge_f (lt32 (by omega) (by omega))) ?_
        refine XS.aloadN Xl.here hexec rfl (hb hbytes d10) rfl rfl ?_
        refine XS.iloadN Xl.here hexec rfl (hb hbytes d11) rfl ?_
        exact Steps.refl _)
      have c4 : Steps p.tables e below (s₁.setTop (entryFrame m #[.ref b, .int (Int32.ofNat o), .ref d, .int (Int32.ofNat q), .int (Int32.ofNat len)] 7)) (Tl.setTop (mkF m 13 #[.val (.ref b), .val (.int (Int32.ofNat (o + i))), .val (.ref d), .val (.int (Int32.ofNat (q + i))), .val (.int (Int32.ofNat len)), .val (.int (Int32.ofNat i)), z] [.int (cv A (o + i))])) := c3.trans (by
        refine Xl.aget hexec hAl rfl (hA.get (i := o + i) (by omega)) rfl rfl (hb hbytes d12) ?_
        exact Steps.refl _)
      have c5 : Steps p.tables e below (s₁.setTop (entryFrame m #[.ref b, .int (Int32.ofNat o), .ref d, .int (Int32.ofNat q), .int (Int32.ofNat len)] 7)) (Tl.setTop (mkF m 15 #[.val (.ref b), .val (.int (Int32.ofNat (o + i))), .val (.ref d), .val (.int (Int32.ofNat (q + i))), .val (.int (Int32.ofNat len)), .val (.int (Int32.ofNat i)), .val (.int (cv A (o + i)))] [])) := c4.trans (by
        refine XS.istoreS Xl.here hexec rfl (hb hbytes d13) rfl rfl hz ?_
        exact Steps.refl _)
      have c6 : Steps p.tables e below (s₁.setTop (entryFrame m #[.ref b, .int (Int32.ofNat o), .ref d, .int (Int32.ofNat q), .int (Int32.ofNat len)] 7)) (Tl.setTop (mkF m 31 #[.val (.ref b), .val (.int (Int32.ofNat (o + i))), .val (.ref d), .val (.int (Int32.ofNat (q + i))), .val (.int (Int32.ofNat len)), .val (.int (Int32.ofNat i)), .val (.int (cv A (o + i)))] [.int (lo8 (cv A (o + i))), .int (Int32.ofNat (q + i)), .ref d])) := c5.trans (by
        refine XS.iload Xl.here hexec rfl (hb hbytes d15) rfl ?_
        refine sipushV Xl.here hexec rfl 255 (hb hbytes d17) (by decide) ?_
        refine XS.icmpYes Xl.here hexec rfl (pc0 := 20) rfl (hb hbytes d20) rfl (ii_le_t (hp i (by omega))) (by decide) rfl ?_
        refine XS.aloadN Xl.here hexec rfl (hb hbytes d26) rfl rfl ?_
        refine XS.iloadN Xl.here hexec rfl (hb hbytes d27) rfl ?_
        refine XS.iload Xl.here hexec rfl (hb hbytes d28) rfl ?_
        refine i2b Xl.here hexec rfl (hb hbytes d30) rfl ?_
        exact Steps.refl _)
      obtain ⟨T7, X7, p7, st7⟩ := Xl.aput hexec hBk rfl hlt rfl (fits_lo8 (cv A (o + i))) (g := (mkF m 31 #[.val (.ref b), .val (.int (Int32.ofNat (o + i))), .val (.ref d), .val (.int (Int32.ofNat (q + i))), .val (.int (Int32.ofNat len)), .val (.int (Int32.ofNat i)), .val (.int (cv A (o + i)))] [.int (lo8 (cv A (o + i))), .int (Int32.ofNat (q + i)), .ref d])) rfl (rest := []) rfl (hb hbytes d31)
      have c8 : Steps p.tables e below (s₁.setTop (entryFrame m #[.ref b, .int (Int32.ofNat o), .ref d, .int (Int32.ofNat q), .int (Int32.ofNat len)] 7)) (T7.setTop (mkF m 32 #[.val (.ref b), .val (.int (Int32.ofNat (o + i))), .val (.ref d), .val (.int (Int32.ofNat (q + i))), .val (.int (Int32.ofNat len)), .val (.int (Int32.ofNat i)), .val (.int (cv A (o + i)))] [])) := c6.trans (st7 _ (Steps.refl _))
      have c9 : Steps p.tables e below (s₁.setTop (entryFrame m #[.ref b, .int (Int32.ofNat o), .ref d, .int (Int32.ofNat q), .int (Int32.ofNat len)] 7)) (T7.setTop (mkF m 3 #[.val (.ref b), .val (.int (Int32.ofNat (o + i) + 1)), .val (.ref d), .val (.int (Int32.ofNat (q + i) + 1)), .val (.int (Int32.ofNat len)), .val (.int (Int32.ofNat i + 1)), .val (.int (cv A (o + i)))] [])) := c8.trans (by
        refine iincV X7.here hexec rfl 1 (hb hbytes d32) (by decide) rfl rfl ?_
        refine iincV X7.here hexec rfl 1 (hb hbytes d35) (by decide) rfl rfl ?_
        refine iincV X7.here hexec rfl 1 (hb hbytes d38) (by decide) rfl rfl ?_
        refine XS.goto X7.here hexec rfl (pc0 := 41) rfl (hb hbytes d41) (by decide) rfl ?_
        exact Steps.refl _)
      have c10 : Steps p.tables e below (s₁.setTop (entryFrame m #[.ref b, .int (Int32.ofNat o), .ref d, .int (Int32.ofNat q), .int (Int32.ofNat len)] 7)) (T7.setTop (mkF m 3 #[.val (.ref b), .val (.int (Int32.ofNat (o + (i + 1)))), .val (.ref d), .val (.int (Int32.ofNat (q + (i + 1)))), .val (.int (Int32.ofNat len)), .val (.int (Int32.ofNat (i + 1))), .val (.int (cv A (o + i)))] [])) := by
        have := c9
        rw [succ32, succ32, succ32] at this
        exact this
      exact ih (i + 1) (by omega) _ (Or.inr ⟨_, rfl, rfl⟩) T7 _ (by rw [copyLocs_step, ← List.append_assoc]; exact X7) (pl.trans p7) (fl.step (by omega) hlt (by simp)) c10
  obtain ⟨T9, B9, z9, X9, p9, f9, g9⟩ := loop len 0 (by omega) .unset (Or.inl rfl) s₁ B (by simpa [copyLocs] using X0) ⟨hB0.1, fun _ _ => rfl, rfl⟩ (Laid.zero _ _ _) c2
  have c11 : Steps p.tables e below (s₁.setTop (entryFrame m #[.ref b, .int (Int32.ofNat o), .ref d, .int (Int32.ofNat q), .int (Int32.ofNat len)] 7)) (T9.setTop (mkF m 46 #[.val (.ref b), .val (.int (Int32.ofNat (o + len))), .val (.ref d), .val (.int (Int32.ofNat (q + len))), .val (.int (Int32.ofNat len)), .val (.int (Int32.ofNat len)), z9] [.int (Int32.ofNat len)])) := g9.trans (by
    refine XS.iload X9.here hexec rfl (hb hbytes d3) rfl ?_
    refine XS.iload X9.here hexec rfl (hb hbytes d5) rfl ?_
    refine XS.icmpYes X9.here hexec rfl (pc0 := 7) rfl (hb hbytes d7) rfl (ii_ge_t (nlt32 (by omega) (Nat.le_refl _))) (by decide) rfl ?_
    refine XS.iload X9.here hexec rfl (hb hbytes d44) rfl ?_
    exact Steps.refl _)
  exact ⟨T9, some (.int (Int32.ofNat len)), _, _, _, X9, by simp, rfl, rfl, (fun h => by cases h), ⟨rfl, B9, p9.from hh0, f9⟩, fun fs hl => c11.trans (X9.ireturnOut hexec hret rfl (Or.inl rfl) (hb hbytes d46) hl)⟩
end Cmp5
namespace Cmp3
def yN : MethodName := ⟨"java/lang/StringUTF16", "compress", "([CII)[B"⟩
abbrev yB : ByteArray := jdk_52_method_16_code
theorem d0 : decode yB 0 = .ok (.iload_n 2, 1) := by decide +kernel
theorem d1 : decode yB 1 = .ok (.newarray .byte, 2) := by decide +kernel
theorem d3 : decode yB 3 = .ok (.astore_n 3, 1) := by decide +kernel
theorem d4 : decode yB 4 = .ok (.aload_n 0, 1) := by decide +kernel
theorem d5 : decode yB 5 = .ok (.iload_n 1, 1) := by decide +kernel
theorem d6 : decode yB 6 = .ok (.aload_n 3, 1) := by decide +kernel
theorem d7 : decode yB 7 = .ok (.iconst 0, 1) := by decide +kernel
theorem d8 : decode yB 8 = .ok (.iload_n 2, 1) := by decide +kernel
theorem d9 : decode yB 9 = .ok (.invokestatic 115, 3) := by decide +kernel
theorem d12 : decode yB 12 = .ok (.istore 4, 2) := by decide +kernel
theorem d14 : decode yB 14 = .ok (.iload 4, 2) := by decide +kernel
theorem d16 : decode yB 16 = .ok (.iload_n 2, 1) := by decide +kernel
theorem d17 : decode yB 17 = .ok (.if_icmp (.eq) 40, 3) := by decide +kernel
theorem d57 : decode yB 57 = .ok (.aload_n 3, 1) := by decide +kernel
theorem d58 : decode yB 58 = .ok (.areturn, 1) := by decide +kernel
def site : List Cond := [.arrayClass .byte, Cmp5.tab] ++ staticW U16 115 Cmp5.yN
def tab : Cond := tabOf yN yB 6 (some (.array .byte)) site
def P (b : Addr) (A : Cell) (o len : Nat) (args : Array Value) (s : State) : Prop := args = #[.ref b, .int (Int32.ofNat o), .int (Int32.ofNat len)] ∧ Ch b A s ∧ o + len ≤ A.slots.size ∧ len ≤ 536870912 ∧ ∀ i, i < len → ¬ 255 < cv A (o + i)
def E (b : Addr) (A : Cell) (o len : Nat) (r : Option Value) (s u : State) : Prop := NewArr .byte "[B" len (fun j => .int (lo8 (cv A (o + j)))) r s u ∧ u.heap.size = s.heap.size + 1
/-- no char of the range above 255: a new byte[] of their low bytes -/
theorem law (l : Launch) (b : Addr) (A : Cell) (o len : Nat) : Law l yN 3 3 1 18 yB 6 (some (.array .byte)) site (P b A o len) (E b A o len) [] 1 len := by
  refine Law.of_walk (plainFor_of_name (by decide +kernel)) (by decide +kernel) (by decide +kernel) (by decide) (fun _ _ h => by rw [h.1]; rfl) (fun _ U U' hal hh h => ⟨h.1, h.2.1.mv hal hh, h.2.2⟩) (fun r U U' V V' h1 hal h2 h => ⟨NewArr.mv r U U' V V' h1 hal h2 h.1, by rw [h1, h2]; exact h.2⟩) ?_
  intro p e s m args below meth c s₁ X0 hexec hbytes hml hret hlk hnm hown hh0 W hP
  obtain ⟨rfl, hA, l1, l2, hp⟩ := hP
  have a31 := hA.1.2.2.2
  have c1 : Steps p.tables e below (s₁.setTop (entryFrame m #[.ref b, .int (Int32.ofNat o), .int (Int32.ofNat len)] 6)) (s₁.setTop (mkF m 0 #[.val (.ref b), .val (.int (Int32.ofNat o)), .val (.int (Int32.ofNat len)), .unset, .unset, .unset] [])) := entry rfl
  have c2 : Steps p.tables e below (s₁.setTop (entryFrame m #[.ref b, .int (Int32.ofNat o), .int (Int32.ofNat len)] 6)) (s₁.setTop (mkF m 1 #[.val (.ref b), .val (.int (Int32.ofNat o)), .val (.int (Int32.ofNat len)), .unset, .unset, .unset] [.int (Int32.ofNat len)])) := c1.trans (by
    refine XS.iloadN X0.here hexec rfl (hb hbytes d0) rfl ?_
    exact Steps.refl _)
  obtain ⟨T3, B3, X3, ba3, bs3, bv3, bh3, bf3, st3⟩ := X0.anew hexec (atype := .byte) (wk W (.arrayClass .byte)) rfl (by show len * 1 ≤ _; omega) (by omega) (g := (mkF m 1 #[.val (.ref b), .val (.int (Int32.ofNat o)), .val (.int (Int32.ofNat len)), .unset, .unset, .unset] [.int (Int32.ofNat len)])) rfl (hb hbytes d1) (rest := []) rfl (Nat.le_refl _) (by show 0 + len ≤ len; omega)
  rw [hh0] at ba3 st3
  have kp3 : XT.Kept s T3 := (XT.Kept.of_eq hh0).push bh3
  have hA3 := hA.keep X3.warmed.alike (kp3 _ _ hA.1.1)
  have hne : b ≠ s.heap.size := hA.1.ne
  have c4 : Steps p.tables e below (s₁.setTop (entryFrame m #[.ref b, .int (Int32.ofNat o), .int (Int32.ofNat len)] 6)) (T3.setTop (mkF m 3 #[.val (.ref b), .val (.int (Int32.ofNat o)), .val (.int (Int32.ofNat len)), .unset, .unset, .unset] [.ref s.heap.size])) := c2.trans (st3 _ (Steps.refl _))
  have c5 : Steps p.tables e below (s₁.setTop (entryFrame m #[.ref b, .int (Int32.ofNat o), .int (Int32.ofNat len)] 6)) (T3.setTop (mkF m 9 #[.val (.ref b), .val (.int (Int32.ofNat o)), .val (.int (Int32.ofNat len)), .val (.ref s.heap.size), .unset, .unset] [.int (Int32.ofNat len), .int 0, .ref s.heap.size, .int (Int32.ofNat o), .ref b])) := c4.trans (by
    refine XS.astoreN X3.here hexec rfl (hb hbytes d3) rfl rfl rfl ?_
    refine XS.aloadN X3.here hexec rfl (hb hbytes d4) rfl rfl ?_
    refine XS.iloadN X3.here hexec rfl (hb hbytes d5) rfl ?_
    refine XS.aloadN X3.here hexec rfl (hb hbytes d6) rfl rfl ?_
    refine iconstV X3.here hexec rfl 0 (hb hbytes d7) (by decide) ?_
    refine XS.iloadN X3.here hexec rfl (hb hbytes d8) rfl ?_
    exact Steps.refl _)
  obtain ⟨v6, T6, X6, E6, g6⟩ := X3.callS hexec (Cmp5.law l b A s.heap.size B3 o 0 len) hown (wks W (staticW U16 115 Cmp5.yN)) (wk W Cmp5.tab) (W := 0) (Nat.le_of_ble_eq_true rfl) (Nat.le_of_ble_eq_true rfl) (Nat.le_refl _) (by show 0 + len + 0 ≤ len; omega) (g := (mkF m 9 #[.val (.ref b), .val (.int (Int32.ofNat o)), .val (.int (Int32.ofNat len)), .val (.ref s.heap.size), .unset, .unset] [.int (Int32.ofNat len), .int (Int32.ofNat 0), .ref s.heap.size, .int (Int32.ofNat o), .ref b])) rfl (by rw [hml]; rfl) c5 (argsL := [.ref b, .int (Int32.ofNat o), .ref s.heap.size, .int (Int32.ofNat 0), .int (Int32.ofNat len)]) (rest := []) rfl rfl (by show 2 * 0 + 0 ≤ _; decide) (hb hbytes d9) (⟨rfl, hA3, ba3, hne, l1, by rw [bs3]; simp, hp⟩)
  obtain ⟨rfl, B6, p6, f6⟩ := E6
  have c7 : Steps p.tables e below (s₁.setTop (entryFrame m #[.ref b, .int (Int32.ofNat o), .int (Int32.ofNat len)] 6)) (T6.setTop (mkF m 12 #[.val (.ref b), .val (.int (Int32.ofNat o)), .val (.int (Int32.ofNat len)), .val (.ref s.heap.size), .unset, .unset] [.int (Int32.ofNat len)])) := g6
  have c8 : Steps p.tables e below (s₁.setTop (entryFrame m #[.ref b, .int (Int32.ofNat o), .int (Int32.ofNat len)] 6)) (T6.setTop (mkF m 58 #[.val (.ref b), .val (.int (Int32.ofNat o)), .val (.int (Int32.ofNat len)), .val (.ref s.heap.size), .val (.int (Int32.ofNat len)), .unset] [.ref s.heap.size])) := c7.trans (by
    refine XS.istore X6.here hexec rfl (hb hbytes d12) rfl rfl ?_
    refine XS.iload X6.here hexec rfl (hb hbytes d14) rfl ?_
    refine XS.iloadN X6.here hexec rfl (hb hbytes d16) rfl ?_
    refine XS.icmpYes X6.here hexec rfl (pc0 := 17) rfl (hb hbytes d17) rfl (ii_eq_t rfl) (by decide) rfl ?_
    refine XS.aloadN X6.here hexec rfl (hb hbytes d57) rfl rfl ?_
    exact Steps.refl _)
  have X8 := X6.wide (L' := []) (cells' := 1) (slots' := len) (fun x hx hlt => by
    simp only [List.nil_append, copyLocs, List.mem_map, List.mem_range] at hx
    obtain ⟨i, -, rfl⟩ := hx
    exact absurd hlt (Nat.lt_irrefl _)) (Nat.le_refl _) (by omega)
  exact ⟨T6, some (.ref s.heap.size), _, _, _, X8, rfl, rfl, rfl, (fun h => by cases h), ⟨⟨rfl, B6, ba3.like (X3.warmed.alike.symm.trans X6.warmed.alike) p6.1 f6.1 f6.2.1 f6.2.2.1, f6.2.1.trans bv3, by rw [X6.warmed.alike.findClass, f6.1]; exact bf3, by rw [f6.2.2.1, bs3]; simp, fun j hj => by rw [f6.2.2.2 j, if_pos (by omega)]; rfl, kp3.put p6 (Nat.le_refl _)⟩, by rw [p6.2.2, bh3, hh0]; simp⟩, fun fs hl => c8.trans (X8.areturnOut hexec rfl hret rfl (hb hbytes d58) hl)⟩
end Cmp3
namespace CodL
def yN : MethodName := ⟨"java/lang/StringUTF16", "coderFromArrayLen", "([BI)B"⟩
abbrev yB : ByteArray := jdk_52_method_15_code
theorem d0 : decode yB 0 = .ok (.iload_n 1, 1) := by decide +kernel
theorem d1 : decode yB 1 = .ok (.aload_n 0, 1) := by decide +kernel
theorem d2 : decode yB 2 = .ok (.arraylength, 1) := by decide +kernel
theorem d3 : decode yB 3 = .ok (.isub, 1) := by decide +kernel
theorem d4 : decode yB 4 = .ok (.bipush 31, 2) := by decide +kernel
theorem d6 : decode yB 6 = .ok (.iushr, 1) := by decide +kernel
theorem d7 : decode yB 7 = .ok (.i2b, 1) := by decide +kernel
theorem d8 : decode yB 8 = .ok (.ireturn, 1) := by decide +kernel
def site : List Cond := []
def tab : Cond := tabOf yN yB 2 (some .byte) site
def P (d : Addr) (B : Cell) (args : Array Value) (s : State) : Prop := args = #[.ref d, .int (Int32.ofNat B.slots.size)] ∧ Arr .byte d B s
def E (r : Option Value) (s u : State) : Prop := XT.PureE (some (.int 0)) r s u
/-- an array as long as the number of chars: LATIN1 -/
theorem law (l : Launch) (d : Addr) (B : Cell) : Law l yN 2 2 0 0 yB 2 (some .byte) site (P d B) E [] 0 0 := by
  refine Law.of_walk (plainFor_of_name (by decide +kernel)) (by decide +kernel) (by decide +kernel) (by decide) (fun _ _ h => by rw [h.1]; rfl) (fun _ U U' hal hh h => ⟨h.1, h.2.mv hal hh⟩) (fun r U U' V V' h1 hal h2 h => XT.PureE.mv r U U' V V' h1 hal h2 h) ?_
  intro p e s m args below meth c s₁ X0 hexec hbytes hml hret hlk hnm hown hh0 W hP
  obtain ⟨rfl, hB⟩ := hP
  have hB0 := hB.mv X0.warmed.alike hh0
  have c1 : Steps p.tables e below (s₁.setTop (entryFrame m #[.ref d, .int (Int32.ofNat B.slots.size)] 2)) (s₁.setTop (mkF m 0 #[.val (.ref d), .val (.int (Int32.ofNat B.slots.size))] [])) := entry rfl
  have c2 : Steps p.tables e below (s₁.setTop (entryFrame m #[.ref d, .int (Int32.ofNat B.slots.size)] 2)) (s₁.setTop (mkF m 2 #[.val (.ref d), .val (.int (Int32.ofNat B.slots.size))] [.ref d, .int (Int32.ofNat B.slots.size)])) := c1.trans (by
    refine XS.iloadN X0.here hexec rfl (hb hbytes d0) rfl ?_
    refine XS.aloadN X0.here hexec rfl (hb hbytes d1) rfl rfl ?_
    exact Steps.refl _)
  have c3 : Steps p.tables e below (s₁.setTop (entryFrame m #[.ref d, .int (Int32.ofNat B.slots.size)] 2)) (s₁.setTop (mkF m 8 #[.val (.ref d), .val (.int (Int32.ofNat B.slots.size))] [.int (lo8 (ushr (Int32.ofNat B.slots.size - Int32.ofNat B.slots.size) 31))])) := c2.trans (by
    refine X0.alen hexec hB0 rfl rfl (hb hbytes d2) ?_
    refine XS.isub X0.here hexec rfl (hb hbytes d3) rfl ?_
    refine bipushV X0.here hexec rfl 31 (hb hbytes d4) (by decide) ?_
    refine iushr X0.here hexec rfl (hb hbytes d6) rfl ?_
    refine i2b X0.here hexec rfl (hb hbytes d7) rfl ?_
    exact Steps.refl _)
  have e0 : lo8 (ushr (Int32.ofNat B.slots.size - Int32.ofNat B.slots.size) 31) = 0 := by rw [Int32.sub_self]; decide
  rw [e0] at c3
  exact ⟨s₁, some (.int 0), _, _, _, X0, rfl, rfl, rfl, (fun h => by cases h), ⟨rfl, hh0⟩, fun fs hl => c3.trans (X0.ireturnOut hexec hret rfl (Or.inr (Or.inr (Or.inl rfl))) (hb hbytes d8) hl)⟩
end CodL
/-- the String at a is Latin-1 over a new byte[] (the heap's one new cell): the low bytes of the len chars of A from o on; every cell but a is kept -/
def Got (a : Addr) (D : Cell) (fV fC : Field) (A : Cell) (o len : Nat) (r : Option Value) (s u : State) : Prop := r = none ∧ ∃ D' V : Cell, Blank "java/lang/String" a D' u ∧ Same D D' [fV.slot, fC.slot] ∧ D'.slots[fV.slot]? = some (.ref s.heap.size) ∧ D'.slots[fC.slot]? = some (.int 0) ∧ Arr .byte s.heap.size V u ∧ V.vm = .none ∧ u.vm.findClass "[B" = some V.cls ∧ V.slots.size = len ∧ (∀ j, j < len → V.slots[j]? = some (.int (lo8 (cv A (o + j))))) ∧ (∀ (y : Addr) (c : Cell), y ≠ a → s.heap[y]? = some c → u.heap[y]? = some c) ∧ u.heap.size = s.heap.size + 1
theorem Got.mv {a : Addr} {D A : Cell} {fV fC : Field} {o len : Nat} : ∀ r (U U' V V' : State), U'.heap = U.heap → V.vm.Alike V'.vm → V'.heap = V.heap → Got a D fV fC A o len r U V → Got a D fV fC A o len r U' V' :=
  fun r U U' V V' h1 hal h2 ⟨e0, D', X, a1, a2, a3, a4, a5, a6, a7, a8, a9, a10, a11⟩ => ⟨e0, D', X, a1.mv hal h2, a2, by rw [h1]; exact a3, a4, by rw [h1]; exact a5.mv hal h2, a6, by rw [hal.findClass]; exact a7, a8, a9, by rw [h1, h2]; exact a10, by rw [h1, h2]; exact a11⟩
namespace New4
def yN : MethodName := ⟨"java/lang/String", "<init>", "([CIILjava/lang/Void;)V"⟩
abbrev yB : ByteArray := jdk_42_method_149_code
theorem d0 : decode yB 0 = .ok (.aload_n 0, 1) := by decide +kernel
theorem d1 : decode yB 1 = .ok (.invokespecial 1, 3) := by decide +kernel
theorem d4 : decode yB 4 = .ok (.iload_n 3, 1) := by decide +kernel
theorem d5 : decode yB 5 = .ok (.ifCond (.ne) 22, 3) := by decide +kernel
theorem d27 : decode yB 27 = .ok (.getstatic 38, 3) := by decide +kernel
theorem d30 : decode yB 30 = .ok (.ifCond (.eq) 28, 3) := by decide +kernel
theorem d33 : decode yB 33 = .ok (.aload_n 1, 1) := by decide +kernel
theorem d34 : decode yB 34 = .ok (.iload_n 2, 1) := by decide +kernel
theorem d35 : decode yB 35 = .ok (.iload_n 3, 1) := by decide +kernel
theorem d36 : decode yB 36 = .ok (.invokestatic 177, 3) := by decide +kernel
theorem d39 : decode yB 39 = .ok (.astore 5, 2) := by decide +kernel
theorem d41 : decode yB 41 = .ok (.aload_n 0, 1) := by decide +kernel
theorem d42 : decode yB 42 = .ok (.aload 5, 2) := by decide +kernel
theorem d44 : decode yB 44 = .ok (.iload_n 3, 1) := by decide +kernel
theorem d45 : decode yB 45 = .ok (.invokestatic 47, 3) := by decide +kernel
theorem d48 : decode yB 48 = .ok (.putfield 15, 3) := by decide +kernel
theorem d51 : decode yB 51 = .ok (.aload_n 0, 1) := by decide +kernel
theorem d52 : decode yB 52 = .ok (.aload 5, 2) := by decide +kernel
theorem d54 : decode yB 54 = .ok (.putfield 9, 3) := by decide +kernel
theorem d57 : decode yB 57 = .ok (.return_, 1) := by decide +kernel
def site : List Cond := [.fieldLink "java/lang/String" 38 "java/lang/String" "COMPACT_STRINGS" "Z", Cmp3.tab, CodL.tab, .laysFinal "java/lang/String" "java/lang/String" "value" "[B", .fieldLink "java/lang/String" 9 "java/lang/String" "value" "[B", .laysFinal "java/lang/String" "java/lang/String" "coder" "B", .fieldLink "java/lang/String" 15 "java/lang/String" "coder" "B"] ++ objW "java/lang/String" 1 ++ staticW "java/lang/String" 177 Cmp3.yN ++ staticW "java/lang/String" 47 CodL.yN
def tab : Cond := tabOf yN yB 6 none site
def P (a : Addr) (D : Cell) (fV fC : Field) (b : Addr) (A : Cell) (z : Int32) (o len : Nat) (args : Array Value) (s : State) : Prop := args = #[.ref a, .ref b, .int (Int32.ofNat o), .int (Int32.ofNat len), .null] ∧ Blank "java/lang/String" a D s ∧ Found "java/lang/String" "value" "[B" fV s ∧ Found "java/lang/String" "coder" "B" fC s ∧ Ch b A s ∧ StaticIs s "java/lang/String" "COMPACT_STRINGS" "Z" (.int z) ∧ ¬ z = 0 ∧ 0 < len ∧ o + len ≤ A.slots.size ∧ len ≤ 536870912 ∧ ∀ i, i < len → ¬ 255 < cv A (o + i)
def E (a : Addr) (D : Cell) (fV fC : Field) (A : Cell) (o len : Nat) (r : Option Value) (s u : State) : Prop := Got a D fV fC A o len r s u
/-- len > 0, no char of the range above 255: a Latin-1 String of their low bytes -/
theorem law (l : Launch) (a : Addr) (D : Cell) (fV fC : Field) (b : Addr) (A : Cell) (z : Int32) (o len : Nat) : Law l yN 5 4 2 35 yB 6 none site (P a D fV fC b A z o len) (E a D fV fC A o len) [⟨a, fC.slot⟩, ⟨a, fV.slot⟩] 1 len := by
  refine Law.of_walk (plainFor_of_name (by decide +kernel)) (by decide +kernel) (by decide +kernel) (by decide) (fun _ _ h => by rw [h.1]; rfl) (fun _ U U' hal hh h => ⟨h.1, h.2.1.mv hal hh, h.2.2.1.al hal, h.2.2.2.1.al hal, h.2.2.2.2.1.mv hal hh, h.2.2.2.2.2.1.there hal hh, h.2.2.2.2.2.2⟩) (fun r U U' V V' h1 hal h2 h => Got.mv r U U' V V' h1 hal h2 h) ?_
  intro p e s m args below meth c s₁ X0 hexec hbytes hml hret hlk hnm hown hh0 W hP
  obtain ⟨rfl, hB, f1, f2, hA, s1, hz, l0, l1, l2, hp⟩ := hP
  have a31 := hA.1.2.2.2
  have c1 : Steps p.tables e below (s₁.setTop (entryFrame m #[.ref a, .ref b, .int (Int32.ofNat o), .int (Int32.ofNat len), .null] 6)) (s₁.setTop (mkF m 0 #[.val (.ref a), .val (.ref b), .val (.int (Int32.ofNat o)), .val (.int (Int32.ofNat len)), .val .null, .unset] [])) := entry rfl
  have c2 : Steps p.tables e below (s₁.setTop (entryFrame m #[.ref a, .ref b, .int (Int32.ofNat o), .int (Int32.ofNat len), .null] 6)) (s₁.setTop (mkF m 1 #[.val (.ref a), .val (.ref b), .val (.int (Int32.ofNat o)), .val (.int (Int32.ofNat len)), .val .null, .unset] [.ref a])) := c1.trans (by
    refine XS.aloadN X0.here hexec rfl (hb hbytes d0) rfl rfl ?_
    exact Steps.refl _)
  obtain ⟨T3, X3, q3, st3⟩ := X0.oinit hexec hown (wks W (objW "java/lang/String" 1)) (g := (mkF m 1 #[.val (.ref a), .val (.ref b), .val (.int (Int32.ofNat o)), .val (.int (Int32.ofNat len)), .val .null, .unset] [.ref a])) rfl (by rw [hml]; rfl) (rest := []) rfl (hb hbytes d1) (W := 0) (by show 2 * 0 + 0 ≤ _; decide) (Nat.le_of_ble_eq_true rfl) (Nat.le_of_ble_eq_true rfl)
  have hh3 := q3.trans hh0
  have c4 : Steps p.tables e below (s₁.setTop (entryFrame m #[.ref a, .ref b, .int (Int32.ofNat o), .int (Int32.ofNat len), .null] 6)) (T3.setTop (mkF m 27 #[.val (.ref a), .val (.ref b), .val (.int (Int32.ofNat o)), .val (.int (Int32.ofNat len)), .val .null, .unset] [])) := (c2.trans (st3 _ (Steps.refl _))).trans (by
    refine XS.iloadN X3.here hexec rfl (hb hbytes d4) rfl ?_
    refine XS.ifYes X3.here hexec rfl (pc0 := 5) rfl (hb hbytes d5) rfl (i0_ne_t (nz32 (by omega) l0)) (by decide) rfl ?_
    exact Steps.refl _)
  obtain ⟨T5, X5, q5, st5⟩ := X3.sget hexec hown (wk W (.fieldLink "java/lang/String" 38 "java/lang/String" "COMPACT_STRINGS" "Z")) s1 (fun _ _ h => by rw [hh3]; exact h) (g := (mkF m 27 #[.val (.ref a), .val (.ref b), .val (.int (Int32.ofNat o)), .val (.int (Int32.ofNat len)), .val .null, .unset] [])) rfl (hb hbytes d27)
  have hh5 := q5.trans hh3
  have c6 : Steps p.tables e below (s₁.setTop (entryFrame m #[.ref a, .ref b, .int (Int32.ofNat o), .int (Int32.ofNat len), .null] 6)) (T5.setTop (mkF m 30 #[.val (.ref a), .val (.ref b), .val (.int (Int32.ofNat o)), .val (.int (Int32.ofNat len)), .val .null, .unset] [.int z])) := c4.trans (st5 _ (Steps.refl _))
  have c7 : Steps p.tables e below (s₁.setTop (entryFrame m #[.ref a, .ref b, .int (Int32.ofNat o), .int (Int32.ofNat len), .null] 6)) (T5.setTop (mkF m 36 #[.val (.ref a), .val (.ref b), .val (.int (Int32.ofNat o)), .val (.int (Int32.ofNat len)), .val .null, .unset] [.int (Int32.ofNat len), .int (Int32.ofNat o), .ref b])) := c6.trans (by
    refine XS.ifNo X5.here hexec rfl (hb hbytes d30) rfl (i0_eq_f hz) ?_
    refine XS.aloadN X5.here hexec rfl (hb hbytes d33) rfl rfl ?_
    refine XS.iloadN X5.here hexec rfl (hb hbytes d34) rfl ?_
    refine XS.iloadN X5.here hexec rfl (hb hbytes d35) rfl ?_
    exact Steps.refl _)
  obtain ⟨v8, T8, X8, E8, g8⟩ := X5.callS hexec (Cmp3.law l b A o len) hown (wks W (staticW "java/lang/String" 177 Cmp3.yN)) (wk W Cmp3.tab) (W := 0) (Nat.le_of_ble_eq_true rfl) (Nat.le_of_ble_eq_true rfl) (Nat.le_refl _) (by show 0 + len ≤ len; omega) (g := (mkF m 36 #[.val (.ref a), .val (.ref b), .val (.int (Int32.ofNat o)), .val (.int (Int32.ofNat len)), .val .null, .unset] [.int (Int32.ofNat len), .int (Int32.ofNat o), .ref b])) rfl (by rw [hml]; rfl) c7 (argsL := [.ref b, .int (Int32.ofNat o), .int (Int32.ofNat len)]) (rest := []) rfl rfl (by show 2 * 0 + 0 ≤ _; decide) (hb hbytes d36) (⟨rfl, hA.mv X5.warmed.alike hh5, l1, l2, hp⟩)
  obtain ⟨e8, z8⟩ := E8
  obtain ⟨rfl, N, n1, n2, n3, n4, n5, n6⟩ := NewArr.mv _ T5 s _ _ hh5.symm (Vm.Alike.refl _) rfl e8
  rw [hh5] at z8
  have hB1 := hB.keep X8.warmed.alike (n6 _ _ hB.1)
  have hne : s.heap.size ≠ a := (Nat.ne_of_lt (Array.getElem?_eq_some_iff.mp hB.1).1).symm
  have c9 : Steps p.tables e below (s₁.setTop (entryFrame m #[.ref a, .ref b, .int (Int32.ofNat o), .int (Int32.ofNat len), .null] 6)) (T8.setTop (mkF m 39 #[.val (.ref a), .val (.ref b), .val (.int (Int32.ofNat o)), .val (.int (Int32.ofNat len)), .val .null, .unset] [.ref s.heap.size])) := g8
  have c10 : Steps p.tables e below (s₁.setTop (entryFrame m #[.ref a, .ref b, .int (Int32.ofNat o), .int (Int32.ofNat len), .null] 6)) (T8.setTop (mkF m 45 #[.val (.ref a), .val (.ref b), .val (.int (Int32.ofNat o)), .val (.int (Int32.ofNat len)), .val .null, .val (.ref s.heap.size)] [.int (Int32.ofNat N.slots.size), .ref s.heap.size, .ref a])) := by
    have hc : Steps p.tables e below (s₁.setTop (entryFrame m #[.ref a, .ref b, .int (Int32.ofNat o), .int (Int32.ofNat len), .null] 6)) (T8.setTop (mkF m 45 #[.val (.ref a), .val (.ref b), .val (.int (Int32.ofNat o)), .val (.int (Int32.ofNat len)), .val .null, .val (.ref s.heap.size)] [.int (Int32.ofNat len), .ref s.heap.size, .ref a])) := c9.trans (by
      refine XS.astore X8.here hexec rfl (hb hbytes d39) rfl rfl rfl ?_
      refine XS.aloadN X8.here hexec rfl (hb hbytes d41) rfl rfl ?_
      refine XS.aload X8.here hexec rfl (hb hbytes d42) rfl rfl ?_
      refine XS.iloadN X8.here hexec rfl (hb hbytes d44) rfl ?_
      exact Steps.refl _)
    rw [n4]; exact hc
  obtain ⟨v11, T11, X11, E11, g11⟩ := X8.callS hexec (CodL.law l s.heap.size N) hown (wks W (staticW "java/lang/String" 47 CodL.yN)) (wk W CodL.tab) (W := 1) (Nat.le_of_ble_eq_true rfl) (Nat.le_of_ble_eq_true rfl) (Nat.le_refl _) (by show 0 + len + 0 ≤ len; omega) (g := (mkF m 45 #[.val (.ref a), .val (.ref b), .val (.int (Int32.ofNat o)), .val (.int (Int32.ofNat len)), .val .null, .val (.ref s.heap.size)] [.int (Int32.ofNat N.slots.size), .ref s.heap.size, .ref a])) rfl (by rw [hml]; rfl) c10 (argsL := [.ref s.heap.size, .int (Int32.ofNat N.slots.size)]) (rest := [.ref a]) rfl rfl (by show 2 * 0 + (1 + 0) ≤ _; decide) (hb hbytes d45) (⟨rfl, n1⟩)
  obtain ⟨rfl, q11⟩ := E11
  have hB11 := hB1.mv (X8.warmed.alike.symm.trans X11.warmed.alike) q11
  have c12 : Steps p.tables e below (s₁.setTop (entryFrame m #[.ref a, .ref b, .int (Int32.ofNat o), .int (Int32.ofNat len), .null] 6)) (T11.setTop (mkF m 48 #[.val (.ref a), .val (.ref b), .val (.int (Int32.ofNat o)), .val (.int (Int32.ofNat len)), .val .null, .val (.ref s.heap.size)] [.int 0, .ref a])) := g11
  obtain ⟨T13, X13, p13, bl13, sl13, st13⟩ := X11.finit hexec hown (wk W (.fieldLink "java/lang/String" 15 "java/lang/String" "coder" "B")) (Or.inr ⟨_, (wk W (.laysFinal "java/lang/String" "java/lang/String" "coder" "B"))⟩) (Or.inl ⟨rfl, hnm⟩) f2 (Or.inl rfl) hB11 (t := .byte) (by decide +kernel) rfl (g := (mkF m 48 #[.val (.ref a), .val (.ref b), .val (.int (Int32.ofNat o)), .val (.int (Int32.ofNat len)), .val .null, .val (.ref s.heap.size)] [.int 0, .ref a])) rfl (rest := []) rfl (hb hbytes d48)
  have c14 : Steps p.tables e below (s₁.setTop (entryFrame m #[.ref a, .ref b, .int (Int32.ofNat o), .int (Int32.ofNat len), .null] 6)) (T13.setTop (mkF m 54 #[.val (.ref a), .val (.ref b), .val (.int (Int32.ofNat o)), .val (.int (Int32.ofNat len)), .val .null, .val (.ref s.heap.size)] [.ref s.heap.size, .ref a])) := (c12.trans (st13 _ (Steps.refl _))).trans (by
    refine XS.aloadN X13.here hexec rfl (hb hbytes d51) rfl rfl ?_
    refine XS.aload X13.here hexec rfl (hb hbytes d52) rfl rfl ?_
    exact Steps.refl _)
  obtain ⟨T15, X15, p15, bl15, sl15, st15⟩ := X13.finit hexec hown (wk W (.fieldLink "java/lang/String" 9 "java/lang/String" "value" "[B")) (Or.inr ⟨_, (wk W (.laysFinal "java/lang/String" "java/lang/String" "value" "[B"))⟩) (Or.inl ⟨rfl, hnm⟩) f1 (Or.inl rfl) bl13 (t := (.array .byte)) (by decide +kernel) rfl (g := (mkF m 54 #[.val (.ref a), .val (.ref b), .val (.int (Int32.ofNat o)), .val (.int (Int32.ofNat len)), .val .null, .val (.ref s.heap.size)] [.ref s.heap.size, .ref a])) rfl (rest := []) rfl (hb hbytes d54)
  have c16 : Steps p.tables e below (s₁.setTop (entryFrame m #[.ref a, .ref b, .int (Int32.ofNat o), .int (Int32.ofNat len), .null] 6)) (T15.setTop (mkF m 57 #[.val (.ref a), .val (.ref b), .val (.int (Int32.ofNat o)), .val (.int (Int32.ofNat len)), .val .null, .val (.ref s.heap.size)] [])) := c14.trans (st15 _ (Steps.refl _))
  have ap := apart (Or.inr ⟨_, (wk W (.laysFinal "java/lang/String" "java/lang/String" "value" "[B"))⟩) (Or.inr ⟨_, (wk W (.laysFinal "java/lang/String" "java/lang/String" "coder" "B"))⟩) f1 f2 (t₁ := .array .byte) (t₂ := .byte) (by decide +kernel) (by decide +kernel) (by decide)
  have al := X8.warmed.alike.symm.trans X15.warmed.alike
  have n7 : T11.heap[s.heap.size]? = some N := by rw [q11]; exact n1.1
  exact ⟨T15, none, _, _, _, X15, by simp, rfl, by omega, (fun _ => rfl), ⟨rfl, _, N, bl15, ((Same.refl D _).set _ (by simp)).set _ (by simp), sl15, (Cell.slots_setSlot_ne _ ap).trans sl13, n1.keep al (p15.other hne (p13.other hne n7)), n2, by rw [al.findClass]; exact n3, n4, n5, fun y c h1 h2 => p15.other h1 (p13.other h1 (by rw [q11]; exact n6 y c h2)), by rw [p15.2.2, p13.2.2, q11]; exact z8⟩, fun fs hl => c16.trans (X15.returnOut hexec hret (hb hbytes d57) hl)⟩
end New4
namespace New1
def yN : MethodName := ⟨"java/lang/String", "<init>", "([C)V"⟩
abbrev yB : ByteArray := jdk_42_method_3_code
theorem d0 : decode yB 0 = .ok (.aload_n 0, 1) := by decide +kernel
theorem d1 : decode yB 1 = .ok (.aload_n 1, 1) := by decide +kernel
theorem d2 : decode yB 2 = .ok (.iconst 0, 1) := by decide +kernel
theorem d3 : decode yB 3 = .ok (.aload_n 1, 1) := by decide +kernel
theorem d4 : decode yB 4 = .ok (.arraylength, 1) := by decide +kernel
theorem d5 : decode yB 5 = .ok (.aconst_null, 1) := by decide +kernel
theorem d6 : decode yB 6 = .ok (.invokespecial 27, 3) := by decide +kernel
theorem d9 : decode yB 9 = .ok (.return_, 1) := by decide +kernel
def site : List Cond := [New4.tab] ++ initW "java/lang/String" 27 New4.yN
def tab : Cond := tabOf yN yB 2 none site
def P (a : Addr) (D : Cell) (fV fC : Field) (b : Addr) (A : Cell) (z : Int32) (args : Array Value) (s : State) : Prop := args = #[.ref a, .ref b] ∧ Blank "java/lang/String" a D s ∧ Found "java/lang/String" "value" "[B" fV s ∧ Found "java/lang/String" "coder" "B" fC s ∧ Ch b A s ∧ StaticIs s "java/lang/String" "COMPACT_STRINGS" "Z" (.int z) ∧ ¬ z = 0 ∧ 0 < A.slots.size ∧ A.slots.size ≤ 536870912 ∧ ∀ i, i < A.slots.size → ¬ 255 < cv A i
def E (a : Addr) (D : Cell) (fV fC : Field) (A : Cell) (r : Option Value) (s u : State) : Prop := Got a D fV fC A 0 A.slots.size r s u
/-- new String(chars), not empty, no char above 255: a Latin-1 String of their low bytes -/
theorem law (l : Launch) (a : Addr) (D : Cell) (fV fC : Field) (b : Addr) (A : Cell) (z : Int32) : Law l yN 2 1 3 52 yB 2 none site (P a D fV fC b A z) (E a D fV fC A) [⟨a, fC.slot⟩, ⟨a, fV.slot⟩] 1 A.slots.size := by
  refine Law.of_walk (plainFor_of_name (by decide +kernel)) (by decide +kernel) (by decide +kernel) (by decide) (fun _ _ h => by rw [h.1]; rfl) (fun _ U U' hal hh h => ⟨h.1, h.2.1.mv hal hh, h.2.2.1.al hal, h.2.2.2.1.al hal, h.2.2.2.2.1.mv hal hh, h.2.2.2.2.2.1.there hal hh, h.2.2.2.2.2.2⟩) (fun r U U' V V' h1 hal h2 h => Got.mv r U U' V V' h1 hal h2 h) ?_
  intro p e s m args below meth c s₁ X0 hexec hbytes hml hret hlk hnm hown hh0 W hP
  obtain ⟨rfl, hB, f1, f2, hA, s1, hz, l0, l2, hp⟩ := hP
  have c1 : Steps p.tables e below (s₁.setTop (entryFrame m #[.ref a, .ref b] 2)) (s₁.setTop (mkF m 0 #[.val (.ref a), .val (.ref b)] [])) := entry rfl
  have c2 : Steps p.tables e below (s₁.setTop (entryFrame m #[.ref a, .ref b] 2)) (s₁.setTop (mkF m 6 #[.val (.ref a), .val (.ref b)] [.null, .int (Int32.ofNat A.slots.size), .int 0, .ref b, .ref a])) := c1.trans (by
    refine XS.aloadN X0.here hexec rfl (hb hbytes d0) rfl rfl ?_
    refine XS.aloadN X0.here hexec rfl (hb hbytes d1) rfl rfl ?_
    refine iconstV X0.here hexec rfl 0 (hb hbytes d2) (by decide) ?_
    refine XS.aloadN X0.here hexec rfl (hb hbytes d3) rfl rfl ?_
    refine X0.alen hexec (hA.1.mv X0.warmed.alike hh0) rfl rfl (hb hbytes d4) ?_
    refine XS.aconstNull X0.here hexec rfl (hb hbytes d5) ?_
    exact Steps.refl _)
  obtain ⟨v3, T3, X3, E3, g3⟩ := X0.callN hexec (New4.law l a D fV fC b A z 0 A.slots.size) rfl hown (wks W (initW "java/lang/String" 27 New4.yN)) (W New4.tab (by simp only [site, List.mem_cons, List.mem_append, true_or, or_true])) (W := 0) (Nat.le_of_ble_eq_true rfl) (Nat.le_of_ble_eq_true rfl) (Nat.le_refl _) (by show 0 + A.slots.size ≤ A.slots.size; omega) (g := (mkF m 6 #[.val (.ref a), .val (.ref b)] [.null, .int (Int32.ofNat A.slots.size), .int (Int32.ofNat 0), .ref b, .ref a])) rfl (by rw [hml]; rfl) c2 (argsL := [.ref b, .int (Int32.ofNat 0), .int (Int32.ofNat A.slots.size), .null]) (rest := []) rfl rfl (by show 2 * 0 + 0 ≤ _; decide) (hb hbytes d6) (⟨rfl, hB.mv X0.warmed.alike hh0, f1.al X0.warmed.alike, f2.al X0.warmed.alike, hA.mv X0.warmed.alike hh0, s1.there X0.warmed.alike hh0, hz, l0, by omega, l2, fun i hi => by rw [Nat.zero_add]; exact hp i hi⟩)
  have e0 := Got.mv _ s₁ s _ _ hh0.symm (Vm.Alike.refl _) rfl E3
  obtain rfl := e0.1
  have c4 : Steps p.tables e below (s₁.setTop (entryFrame m #[.ref a, .ref b] 2)) (T3.setTop (mkF m 9 #[.val (.ref a), .val (.ref b)] [])) := g3
  exact ⟨T3, none, _, _, _, X3, by simp, rfl, by omega, (fun _ => rfl), e0, fun fs hl => c4.trans (X3.returnOut hexec hret (hb hbytes d9) hl)⟩
theorem pays {l : Launch} {R : Room} {p : Program} {e : Env} {below : List Frame} {s : State} {sargs : Array Value} {len W : Nat} (a : Addr) (D : Cell) (fV fC : Field) (b : Addr) (A : Cell) (z : Int32) (htab : tab.before sargs s = true) (hfr : 4 ≤ R.frames) (hlo : W + 65 ≤ R.locals) :
    Back l R p e below s sargs yN len W (fun A₁ a₁ => A₁.cells + 1 ≤ R.cells ∧ A₁.slots + A.slots.size ≤ R.slots ∧ P a D fV fC b A z a₁ A₁.U) (fun A₁ _ v₁ B₁ => E a D fV fC A v₁ A₁.U B₁.U ∧ B₁.locs = A₁.locs ++ [⟨a, fC.slot⟩, ⟨a, fV.slot⟩] ∧ B₁.cells = A₁.cells + 1 ∧ B₁.slots = A₁.slots + A.slots.size) :=
  (law l a D fV fC b A z).pays htab hfr (by omega)
end New1
end StrChars
namespace StrChars.Road
open Jvm Sem ClassFile Op Lib Jvm.Stand Jvm.Free Jvm.Free.XT
open Jvm.Lib.Cold (StaticIs)
abbrev ST : String := "java/lang/String"
/-- every table word that New1's law asks, flat -/
abbrev words : List Jvm.Cond := [.code New1.yN New1.yB 2 none, .initialized ST, .methodLink ST 27 New4.yN, .instanceMethod New4.yN,
  .code New4.yN New4.yB 6 none, .fieldLink ST 38 ST "COMPACT_STRINGS" "Z", .laysFinal ST ST "value" "[B", .fieldLink ST 9 ST "value" "[B", .laysFinal ST ST "coder" "B", .fieldLink ST 15 ST "coder" "B",
  .methodLink ST 1 Lib.objectInit, .instanceMethod Lib.objectInit, .code Lib.objectInit ⟨#[0xb1]⟩ 1 none, .methodLink ST 177 Cmp3.yN, .static Cmp3.yN, .methodLink ST 47 CodL.yN, .static CodL.yN,
  .code Cmp3.yN Cmp3.yB 6 (some (.array .byte)), .initialized U16, .arrayClass .byte, .methodLink U16 115 Cmp5.yN, .static Cmp5.yN, .code Cmp5.yN Cmp5.yB 7 (some .int), .code CodL.yN CodL.yB 2 (some .byte)]
theorem tab_of {a : Array Value} {s : State} (h : ∀ w ∈ words, w.before a s = true) : New1.tab.before a s = true := by
  have h5 : Cmp5.tab.before a s = true := unparts (wk h (.code Cmp5.yN Cmp5.yB 7 (some .int))) (wks h (.initialized Cmp5.yN.cls :: Cmp5.site))
  have hc : CodL.tab.before a s = true := unparts (wk h (.code CodL.yN CodL.yB 2 (some .byte))) (wks h (.initialized CodL.yN.cls :: CodL.site))
  have q5 : ∀ w ∈ Cmp5.tab :: words, w.before a s = true := fun w hw => (List.mem_cons.mp hw).elim (fun e => e ▸ h5) (h w)
  have h3 : Cmp3.tab.before a s = true := unparts (wk q5 (.code Cmp3.yN Cmp3.yB 6 (some (.array .byte)))) (wks q5 (.initialized Cmp3.yN.cls :: Cmp3.site))
  have q3 : ∀ w ∈ Cmp3.tab :: CodL.tab :: words, w.before a s = true := fun w hw => (List.mem_cons.mp hw).elim (fun e => e ▸ h3) fun hw => (List.mem_cons.mp hw).elim (fun e => e ▸ hc) (h w)
  have h4 : New4.tab.before a s = true := unparts (wk q3 (.code New4.yN New4.yB 6 none)) (wks q3 (.initialized New4.yN.cls :: New4.site))
  have q4 : ∀ w ∈ New4.tab :: words, w.before a s = true := fun w hw => (List.mem_cons.mp hw).elim (fun e => e ▸ h4) (h w)
  exact unparts (wk q4 (.code New1.yN New1.yB 2 none)) (wks q4 (.initialized New1.yN.cls :: New1.site))
/-- the words ride from the start Z to the walk's own state -/
theorem moved {Z s : State} {a0 args : Array Value} (hZ : Z.Warmed39 s.vm) (hw : ∀ d ∈ words, d.before a0 Z = true) : ∀ d ∈ words, d.before args s = true := fun d hd => by
  have q := hw d hd
  have t : ∀ d ∈ words, d = .arrayClass .byte ∨ (d.onTables && d.keepsFace) = true := by decide +kernel
  rcases t d hd with rfl | t
  · exact RoadKit.mvA hZ q
  · exact RoadKit.mv hZ q t
/-- WHAT COMES BACK, over the tables of the start Z: h the heap at the call, h' behind it -/
def Q (Z : State) (x : Addr) (A : Cell) (h : Heap) (v : Option Value) (h' : Heap) (L : List Loc) : Prop := v = none ∧ (∀ y ∈ L, y.base = x) ∧ RoadKit.Keep h h' [x] ∧ h'.size = h.size + 1 ∧ RoadKit.Exa Z h' x ST ∧ RoadKit.Fld Z h' x ST "value" "[B" (.ref h.size) ∧ RoadKit.Fld Z h' x ST "coder" "B" (.int 0) ∧
  (∃ V : Cell, RoadKit.Arr Z h' h.size V .byte ∧ V.vm = .none ∧ Z.vm.findClass "[B" = some V.cls ∧ V.slots.size = A.slots.size ∧ ∀ j, j < A.slots.size → V.slots[j]? = some (.int (lo8 (cv A j)))) ∧
  ∀ (O n d : String) (w : Value), RoadKit.Fld Z h x O n d w → RoadKit.slotOf Z O n d ≠ RoadKit.slotOf Z ST "value" "[B" → RoadKit.slotOf Z O n d ≠ RoadKit.slotOf Z ST "coder" "B" → RoadKit.Fld Z h' x O n d w
/-- **new String(chars) AT A CALL, IN THE ROAD'S FORM**: for specialBack behind newO: x the fresh String, b the char[] with the cell A -/
theorem back {p : Program} {l : Launch} {e : Env} {R : Room} {s : State} {args : Array Value} {below : List Frame} {len W : Nat} {Z : State} {a0 : Array Value} {h : Heap} (hZ : Z.Warmed39 s.vm) (hw : ∀ d ∈ words, d.before a0 Z = true) {kI : Nat} (wi : (Jvm.Cond.instantiable ST kI).before a0 Z = true)
    {x b : Addr} {A : Cell} {z : Int32} {v0 c0 : Value} (E : RoadKit.Exa Z h x ST) (V : RoadKit.Fld Z h x ST "value" "[B" v0) (C : RoadKit.Fld Z h x ST "coder" "B" c0) (K : RoadKit.Arr Z h b A .char) (hty : Typed .char A) (S : RoadKit.Sta Z h ST "COMPACT_STRINGS" "Z" (.int z)) (hz : ¬ z = 0)
    (l0 : 0 < A.slots.size) (l2 : A.slots.size ≤ 536870912) (hp : ∀ i, i < A.slots.size → ¬ 255 < cv A i) (hfr : 4 ≤ R.frames) (hlo : W + 65 ≤ R.locals) :
    Back l R p e below s args New1.yN len W (fun P a => a = #[.ref x, .ref b] ∧ P.U.heap = h ∧ P.cells + 1 ≤ R.cells ∧ P.slots + A.slots.size ≤ R.slots)
      (fun P _ v B => ∃ L, Q Z x A h v B.U.heap L ∧ B.locs = P.locs ++ L ∧ B.cells = P.cells + 1 ∧ B.slots = P.slots + A.slots.size) := by
  intro m meth c P g ig mk a X hg hsize hdg hW hn hp'
  obtain ⟨rfl, rfl, r1, r2⟩ := hp'
  have al : Z.vm.Alike P.U.vm := hZ.alike.trans X.warmed.alike
  obtain ⟨D, cfV, kV, iV, fV, hD, gV, stV, knV, obV, asV, slV⟩ := id V
  obtain ⟨D', cfC, kC, iC, fC, hD', gC, stC, -, -, asC, slC⟩ := id C
  cases hD.symm.trans hD'
  obtain ⟨D2, kD, e1, e2, e3, e4, e5⟩ := id E
  cases hD.symm.trans e1
  obtain ⟨c2, k2, i1, i2, i3, -⟩ := Cond.instantiable_spec wi
  cases e2.symm.trans i1
  cases e3.symm.trans i2
  obtain ⟨kU, u1, u2⟩ := al.2.2 _ _ e3
  have hB : Blank ST x D P.U := ⟨hD, ⟨knV, fun q hq => by rw [hq] at obV; cases obV⟩, by rw [al.findClass]; exact e2, kU, u1, by rw [u2]; exact i3, by rw [u2]; exact e5 i3⟩
  have F1 : Found ST "value" "[B" fV P.U := ⟨SBG.found_only al ⟨cfV, kV, iV, gV⟩, stV⟩
  have F2 : Found ST "coder" "B" fC P.U := ⟨SBG.found_only al ⟨cfC, kC, iC, gC⟩, stC⟩
  have hA : Ch b A P.U := ⟨⟨K.1, State.isArrayOf_alike al K.2.1, K.2.2, by omega⟩, hty⟩
  have hS : StaticIs P.U ST "COMPACT_STRINGS" "Z" (.int z) := by
    obtain ⟨cfS, iS, kS, fS, st, cS, t1, t2, t3, t4, t5, t6, t7⟩ := S
    exact StaticIs.there (s := { Z with heap := P.U.heap }) ⟨cfS, iS, kS, fS, st, cS, t1, t2, t3, t4, t5, (fun q => by rw [q] at t6; cases t6), t7⟩ al rfl
  obtain ⟨v, B, X', ⟨⟨hv, E', V', q1, q2, q3, q4, q5, q6, q7, q8, q9, q10, q11⟩, hl, hc, hs⟩, st⟩ := New1.pays x D fV fC b A z (tab_of (moved hZ hw)) hfr hlo m meth c P g ig mk _ X hg hsize hdg hW hn ⟨r1, r2, rfl, hB, F1, F2, hA, hS, hz, l0, l2, hp⟩
  have al' : Z.vm.Alike B.U.vm := hZ.alike.trans X'.warmed.alike
  have hsz : E'.slots.size = D.slots.size := by
    obtain ⟨-, -, -, kB, w1, w2, w3⟩ := q1
    obtain ⟨kB', y1, y2⟩ := al'.2.2 _ _ e3
    rw [q2.2.1] at w1
    cases w1.symm.trans y1
    rw [w3, e5 i3, y2]
  refine ⟨v, B, X', ⟨_, ⟨hv, ?_, ⟨by omega, fun y cy hy hn' => q10 y cy (by simpa using hn') hy, fun y cy hy => ?_⟩, q11, ⟨E', _, q1.1, by rw [q2.2.1]; exact e2, by rw [q2.2.1]; exact e3, by rw [q2.1]; exact obV, fun _ => by rw [hsz]; exact e5 i3⟩,
    ⟨E', cfV, kV, iV, fV, q1.1, gV, stV, by rw [q2.1]; exact knV, by rw [q2.1]; exact obV, by rw [q2.2.1]; exact asV, q3⟩, ⟨E', cfC, kC, iC, fC, q1.1, gC, stC, by rw [q2.1]; exact knV, by rw [q2.1]; exact obV, by rw [q2.2.1]; exact asC, q4⟩,
    ⟨V', ⟨q5.1, State.isArrayOf_alike al'.symm q5.2.1, q5.2.2.1⟩, q6, by rw [← al'.findClass]; exact q7, q8, fun j hj => by have := q9 j hj; rwa [Nat.zero_add] at this⟩, fun O n d w F n1 n2 => ?_⟩, hl, hc, hs⟩, st⟩
  · intro y hy
    simp only [List.mem_cons, List.not_mem_nil, or_false] at hy
    rcases hy with rfl | rfl <;> rfl
  · by_cases q : y = x
    · subst q
      cases hD.symm.trans hy
      exact ⟨E', q1.1, q2.2.1, q2.1, hsz⟩
    · exact ⟨cy, q10 y cy q hy, rfl, rfl, rfl⟩
  · obtain ⟨D3, cf, k, i, f, g1, g2, g3, g4, g5, g6, g7⟩ := F
    cases hD.symm.trans g1
    simp only [RoadKit.slotOf, g2, gV, gC, Option.map_some, Option.getD_some] at n1 n2
    exact ⟨E', cf, k, i, f, q1.1, g2, g3, by rw [q2.1]; exact g4, by rw [q2.1]; exact g5, by rw [q2.2.1]; exact g6, by rw [q2.2.2 f.slot (by simp [n1, n2])]; exact g7⟩
end StrChars.Road
namespace StrChars.Road
open Jvm Sem ClassFile Op Lib Jvm.Stand Jvm.Free Jvm.Free.XT
/-- WHAT COMES BACK, the byte[] as a list of values -/
def QA (Z : State) (x : Addr) (zn : Int32) (cs : List Int32) (h : Heap) (v : Option Value) (h' : Heap) (L : List Loc) : Prop := v = none ∧ (∀ y ∈ L, y.base = x) ∧ RoadKit.Keep h h' [x] ∧ h'.size = h.size + 1 ∧ RoadKit.Exa Z h' x ST ∧ RoadKit.Fld Z h' x ST "value" "[B" (.ref h.size) ∧ RoadKit.Fld Z h' x ST "coder" "B" (.int 0) ∧
  (∃ kb, Z.vm.findClass "[B" = some kb ∧ RoadKit.Arv Z h' h.size kb .byte zn (cs.map fun c => .int (lo8 c)) (.int 0)) ∧
  ∀ (O n d : String) (w : Value), RoadKit.Fld Z h x O n d w → RoadKit.slotOf Z O n d ≠ RoadKit.slotOf Z ST "value" "[B" → RoadKit.slotOf Z O n d ≠ RoadKit.slotOf Z ST "coder" "B" → RoadKit.Fld Z h' x O n d w
/-- **new String(chars) AT A CALL, THE ARRAYS AS LISTS**: the char[] at b holds cs, not empty, no char above 255 -/
theorem backArv {p : Program} {l : Launch} {e : Env} {R : Room} {s : State} {args : Array Value} {below : List Frame} {len W : Nat} {Z : State} {a0 : Array Value} {h : Heap} (hZ : Z.Warmed39 s.vm) (hw : ∀ d ∈ words, d.before a0 Z = true) {kI : Nat} (wi : (Jvm.Cond.instantiable ST kI).before a0 Z = true)
    {x b : Addr} {k : ClassId} {zn z : Int32} {cs : List Int32} {dv v0 c0 : Value} (E : RoadKit.Exa Z h x ST) (V : RoadKit.Fld Z h x ST "value" "[B" v0) (C : RoadKit.Fld Z h x ST "coder" "B" c0) (K : RoadKit.Arv Z h b k .char zn (cs.map Value.int) dv) (S : RoadKit.Sta Z h ST "COMPACT_STRINGS" "Z" (.int z)) (hz : ¬ z = 0)
    (hlen : zn.toNatClampNeg = cs.length) (h0 : 0 < cs.length) (hbig : cs.length ≤ 536870912) (hall : ∀ c ∈ cs, ¬ 255 < c) (hfr : 4 ≤ R.frames) (hlo : W + 65 ≤ R.locals) :
    Back l R p e below s args New1.yN len W (fun P a => a = #[.ref x, .ref b] ∧ P.U.heap = h ∧ P.cells + 1 ≤ R.cells ∧ P.slots + cs.length ≤ R.slots)
      (fun P _ v B => ∃ L, QA Z x zn cs h v B.U.heap L ∧ B.locs = P.locs ++ L ∧ B.cells = P.cells + 1 ∧ B.slots = P.slots + cs.length) := by
  obtain ⟨A, K1, K2, K3, K4, K5, K6⟩ := K
  have e : A.slots.size = cs.length := K3.trans hlen
  have hat : ∀ (i : Nat) (hi : i < cs.length), A.slots[i]? = some (.int cs[i]) := fun i hi => by rw [K5 i (by omega)]; simp [List.getD_eq_getElem?_getD, hi]
  have hcv : ∀ (i : Nat) (hi : i < cs.length), cv A i = cs[i] := fun i hi => by unfold cv; rw [hat i hi]
  have hty : Typed .char A := fun i v hv => by
    have hi : i < A.slots.size := (Array.getElem?_eq_some_iff.mp hv).1
    have q := K5 i hi
    rw [hv] at q
    rw [Option.some.inj q]
    exact K6 i hi
  refine Back.mono (back hZ hw wi E V C K1 hty S hz (by omega) (by omega) (fun i hi => by rw [hcv i (by omega)]; exact hall _ (List.getElem_mem _)) hfr hlo) (fun P a hp => ⟨hp.1, hp.2.1, hp.2.2.1, by rw [e]; exact hp.2.2.2⟩) (fun P a v B hp hq => ?_)
  obtain ⟨L, ⟨q1, q2, q3, q4, q5, q6, q7, ⟨V', v1, v2, v3, v4, v5⟩, q9⟩, hl, hc, hs⟩ := hq
  refine ⟨L, ⟨q1, q2, q3, q4, q5, q6, q7, ⟨V'.cls, v3, V', v1, rfl, by rw [v4, e, hlen], K4, fun i hi => ?_, fun i hi => ?_⟩, q9⟩, hl, hc, by rw [hs, e]⟩
  · have hi' : i < cs.length := by omega
    rw [v5 i (by omega), hcv i hi']; simp [List.getD_eq_getElem?_getD, hi']
  · have hi' : i < cs.length := by omega
    simp only [List.getD_eq_getElem?_getD, List.getElem?_map, List.getElem?_eq_getElem hi', Option.map_some, Option.getD_some]
    exact fits_lo8 _
end StrChars.Road
namespace StrChars.Road
open Jvm Sem ClassFile Op Lib Jvm.Stand Jvm.Free Jvm.Free.XT
/-- WHAT COMES BACK, in the writer's own shape -/
def QV (Z : State) (x : Addr) (N : Int32) (bs : List Int32) (h : Heap) (n0 : Nat) (v : Option Value) (h' : Heap) (L : List Loc) : Prop := v = none ∧ RoadKit.Fr n0 L ∧ RoadKit.Keep h h' [x] ∧ RoadKit.Exa Z h' x ST ∧ RoadKit.Fld Z h' x ST "coder" "B" (.int 0) ∧
  ∃ (t : Addr) (kb : ClassId), n0 ≤ t ∧ h.size ≤ t ∧ ¬ t = x ∧ RoadKit.Fld Z h' x ST "value" "[B" (.ref t) ∧ RoadKit.Arv Z h' t kb .byte N (bs.map Value.int) (.int 0)
/-- **new String(chars) AT A CALL, FOR THE WRITER**: a char[] of n known ints, each 0 to 255 -/
theorem backV {p : Program} {l : Launch} {e : Env} {R : Room} {s : State} {args : Array Value} {below : List Frame} {len W : Nat} {Z : State} {a0 : Array Value} {h : Heap} (hZ : Z.Warmed39 s.vm) (hw : ∀ d ∈ words, d.before a0 Z = true) {kI : Nat} (wi : (Jvm.Cond.instantiable ST kI).before a0 Z = true)
    {x b : Addr} {kC : ClassId} {cs bs : List Int32} {d v0 c0 : Value} {z N : Int32} {n n0 : Nat} (hx0 : n0 ≤ x) (hh0 : n0 ≤ h.size) (E : RoadKit.Exa Z h x ST) (V : RoadKit.Fld Z h x ST "value" "[B" v0) (C : RoadKit.Fld Z h x ST "coder" "B" c0) (K : RoadKit.Arv Z h b kC .char N (cs.map Value.int) d) (S : RoadKit.Sta Z h ST "COMPACT_STRINGS" "Z" (.int z)) (hz : ¬ z = 0)
    (hn : cs.length = n) (hN : N = Int32.ofNat n) (l0 : 0 < n) (l2 : n ≤ 4000) (hp : ∀ c ∈ cs, ¬ c < 0 ∧ ¬ (255 : Int32) < c) (hb : bs = cs.map (fun c => c.toInt8.toInt32)) (hfr : 4 ≤ R.frames) (hlo : W + 65 ≤ R.locals) :
    Back l R p e below s args (⟨"java/lang/String", "<init>", "([C)V"⟩ : MethodName) len W (fun P a => a = #[.ref x, .ref b] ∧ P.U.heap = h ∧ P.cells + 1 ≤ R.cells ∧ P.slots + n ≤ R.slots)
      (fun P _ v B => ∃ L, QV Z x N bs h n0 v B.U.heap L ∧ B.locs = P.locs ++ L ∧ B.cells = P.cells + 1 ∧ B.slots = P.slots + n) := by
  subst hn hN hb
  refine Back.mono (backArv hZ hw wi E V C K S hz (n32 (by omega)) l0 (by omega) (fun c hc => (hp c hc).2) hfr hlo) (fun P a hp => hp) (fun P a v B hp hq => ?_)
  obtain ⟨L, ⟨q1, q2, q3, q4, q5, q6, q7, ⟨kb, v1, v2⟩, q9⟩, hl, hc, hs⟩ := hq
  exact ⟨L, ⟨q1, fun y hy => by rw [q2 y hy]; exact hx0, q3, q5, q7, h.size, kb, hh0, Nat.le_refl _, Nat.ne_of_gt E.lt, q6, by rw [List.map_map]; exact v2⟩, hl, hc, hs⟩
end StrChars.Road
end Jvm.Pilot.@@N@@
namespace Jvm.Pilot.@@N@@
open Jvm Jvm.ClassFile Sem Op Lib Jvm.Free Jvm.Stand Jvm.LawKit Jvm.RoadKit Bundle Jvm.Pilot.@@N@@.Jvm.D
-- own prelude: a walk as a chain of goals Go (from here the method comes to its end, and Fin holds there)
def PT (W : Bool) (EL : List (String × Nat)) (Z : State) (a0 : Array Value) (own : String) (p : Program) (l : Launch) (e : Env) (R : Room) (s : State) (m : MethodId) (args : Array Value) (below : List Frame) (meth : Method) (c : Code) (T : State) (h : Heap) (cells slots : Nat) : Prop :=
  ∃ (vm0 : Vm) (k0 : Nat) (locs : List Loc), (W = false → vm0 = s.vm) ∧ Stand p l e R (s.setVm vm0) m args below meth c T locs cells slots ∧ T.heap = h ∧ p.tables.exec = Jvm.exec ∧ Z.Warmed39 vm0 ∧ vm0.findClass own = some m.cls ∧ s.Since vm0 k0 ∧ k0 ≤ h.size ∧ EW Z a0 EL ∧ CHr Z EL s.vm s.heap vm0 h ∧ Fr Z.heap.size locs ∧ Old Z Z.heap.size h
def Go (W : Bool) (EL : List (String × Nat)) (Z : State) (a0 : Array Value) (own : String) (p : Program) (l : Launch) (e : Env) (R : Room) (s : State) (m : MethodId) (args : Array Value) (below : List Frame) (meth : Method) (c : Code) (F : Outcome → State → Prop) (h : Heap) (cells slots : Nat) (g : JFrame) : Prop :=
  ∀ T, PT W EL Z a0 own p l e R s m args below meth c T h cells slots → ∃ t o, Steps p.tables e below (T.setTop g) t ∧ t.status = .running ∧ Ended t below o ∧ F o t
def Fend (W : Bool) (EL : List (String × Nat)) (Z : State) (s : State) (h0 : Heap) (ws : List Addr) (Q : Option Value → Heap → Prop) (dc ds : Nat) (o : Outcome) (t : State) : Prop :=
  ∃ v L, o = .returned v ∧ (Q v t.heap ∧ Fr Z.heap.size L ∧ Keep h0 t.heap ws) ∧ (W = true → CHr Z EL s.vm s.heap t.vm t.heap ∧ ReturnedEndW s o t L dc ds) ∧ (W = false → FrameEnd s o t L dc ds)
def Con (W : Bool) (EL : List (String × Nat)) (l : Launch) (Z : State) (y : MethodName) (bytes : ByteArray) (maxL : Nat) (ret : Option FieldType) (wl : List Jvm.Cond) (rm : Room) (as' : Array Value) (h : Heap) (ws : List Addr) (Q : Option Value → Heap → Prop) : Prop :=
  MetFree l y (head1 (Jvm.Cond.code y bytes maxL ret :: wl) rm) (fun a U => a = as' ∧ Z.Warmed39 U.vm ∧ U.heap = h ∧ (W = true → CHv Z EL U.vm h)) (fun _ _ _ _ _ => True) (fun _ U o U' => Fend W EL Z U h ws Q rm.cells rm.slots o U')
def rvl (Q : Value → Heap → Prop) (v : Option Value) (h : Heap) : Prop := ∃ x, v = some x ∧ Q x h
def rno (Q : Heap → Prop) (v : Option Value) (h : Heap) : Prop := v = none ∧ Q h
def Pay (l : Launch) (R : Room) (p : Program) (e : Env) (below : List Frame) (Z : State) (y : MethodName) (Wd : Nat) (as' : Array Value) (h : Heap) (dc ds : Nat) (ws : List Addr) (Q : Option Value → Heap → Prop) : Prop :=
  ∀ (s : State) (args : Array Value), Z.Warmed39 s.vm → Back l R p e below s args y 3 Wd (fun A a => a = as' ∧ A.U.heap = h ∧ A.cells + dc ≤ R.cells ∧ A.slots + ds ≤ R.slots) (fun A _ v B => ∃ L, (Q v B.U.heap ∧ Fr Z.heap.size L ∧ Keep h B.U.heap ws) ∧ B.locs = A.locs ++ L ∧ B.cells = A.cells + dc ∧ B.slots = A.slots + ds)
def PayW (EL : List (String × Nat)) (l : Launch) (R : Room) (p : Program) (e : Env) (below : List Frame) (Z : State) (y : MethodName) (Wd : Nat) (as' : Array Value) (h : Heap) (dc ds : Nat) (ws : List Addr) (Q : Option Value → Heap → Prop) : Prop :=
  ∀ (s : State) (vm0 : Vm) (args : Array Value), Z.Warmed39 vm0 → CHv Z EL vm0 h → BackS l R p e below (s.setVm vm0) args y 3 Wd (fun A a => a = as' ∧ A.U.heap = h ∧ A.cells + dc ≤ R.cells ∧ A.slots + ds ≤ R.slots) (fun A _ v B => ∃ L, (Q v B.U.heap ∧ Fr Z.heap.size L ∧ Keep h B.U.heap ws) ∧ B.locs = A.locs ++ L ∧ B.cells = A.cells + dc ∧ B.slots = A.slots + ds ∧ CHr Z EL vm0 h B.U.vm B.U.heap)
section Own
variable {W : Bool} {EL : List (String × Nat)} {Z : State} {a0 : Array Value} {own : String} {p : Program} {l : Launch} {e : Env} {R : Room} {s : State} {m : MethodId} {args : Array Value} {below : List Frame} {meth : Method} {c : Code} {F : Outcome → State → Prop} {h : Heap} {cells slots cells' slots' : Nat} {pc pc' : Nat} {ls ls' : Array Slot} {st : List Value}
theorem safe_nil {vm : Vm} {x : Addr} : Safe Z [] vm h x := fun ⟨_, hp, _⟩ => nomatch hp
theorem chv_nil {vm : Vm} : CHv Z [] vm h := fun _ hp => nomatch hp
theorem con_of {y : MethodName} {bytes : ByteArray} {maxL : Nat} {ret : Option FieldType} {wl : List Jvm.Cond} {rm : Room} {as' : Array Value} {ws : List Addr} {Q : Option Value → Heap → Prop} (hname : plainFor y = true) (hWE : W = false → EL = []) (hEL : EW Z a0 EL) (hO : Old Z Z.heap.size h) (hef : ∀ m, entryFrame m as' maxL = mkF m 0 ls [])
    (body : ∀ (p : Program) (e : Env) (s : State) (m : MethodId) (below : List Frame) (meth : Method) (c : Code), c.code = bytes → c.maxLocals = maxL → meth.sig.returnType = ret → meth.locks = false → meth.name = y.name → Go W EL Z a0 y.cls p l e rm s m as' below meth c (Fend W EL Z s h ws Q rm.cells rm.slots) h 0 0 (mkF m 0 ls [])) :
    Con W EL l Z y bytes maxL ret wl rm as' h ws Q := by
  refine MetFree.of_bodySF hname hisR ?_
  intro p e s m args below meth c s₁ Bd hml hP _
  obtain ⟨rfl, hZ, hh, hC⟩ := hP
  have X0 : Stand p l e rm s m args below meth c s₁ [] 0 0 := Stand.of_body Bd
  have e0 : s₁.heap = h := by rw [← hh, Bd.state]; rfl
  have hown : s.vm.findClass y.cls = some m.cls := findClass_of_methodNamed Bd.named
  have hnm := (name_of_methodNamed Bd.named Bd.method).1
  have hcv : CHv Z EL s.vm h := by
    cases W
    · rw [hWE rfl]; exact chv_nil
    · exact hC rfl
  have hcr : CHr Z EL s.vm s.heap s.vm h := by rw [hh]; exact CHr.refl hcv
  obtain ⟨t, o, h1, h2⟩ := body p e s m below meth c Bd.bytes hml Bd.returns Bd.notSynchronized hnm s₁ ⟨s.vm, h.size, [], fun _ => rfl, X0, e0, Bd.exec, hZ, hown, (State.WarmedH.refl s).since _, Nat.le_refl _, hEL, hcr, Fr.nil _, hO⟩
  exact ⟨t, o, castTop (hef m) h1, h2⟩
theorem pay_of {y : MethodName} {bytes : ByteArray} {maxL : Nat} {ret : Option FieldType} {rm : Room} {as' : Array Value} {ws : List Addr} {Q : Option Value → Heap → Prop} {Wd : Nat} (hM : Con false [] l Z y bytes maxL ret [] rm as' h ws Q) (wc : (Jvm.Cond.code y bytes maxL ret).before a0 Z = true) (wz : (Jvm.Cond.initialized y.cls).before a0 Z = true) (hf : rm.frames + 1 ≤ R.frames) (hl : Wd + (maxL + 11) + rm.locals ≤ R.locals) :
    Pay l R p e below Z y Wd as' h rm.cells rm.slots ws Q := by
  intro s args hZ
  refine backOf (Q := fun v h' L => Q v h' ∧ Fr Z.heap.size L ∧ Keep h h' ws) ?_ hZ wc wz hf hl
  intro p e h1 h2 h3 s m args below h4 h5 h6 h7
  obtain ⟨n, o, q1, q2, q3, v, L, rfl, hq, -, hF⟩ := hM p e h1 h2 h3 s m args below h4 h5 ⟨h6.1, h6.2.1, h6.2.2, fun q => nomatch q⟩ h7
  exact ⟨n, _, q1, q2, q3, v, L, rfl, hq, hF rfl⟩
theorem payW_of {y : MethodName} {bytes : ByteArray} {maxL : Nat} {ret : Option FieldType} {rm : Room} {as' : Array Value} {ws : List Addr} {Q : Option Value → Heap → Prop} {Wd : Nat} (hM : Con true EL l Z y bytes maxL ret [] rm as' h ws Q) (wc : (Jvm.Cond.code y bytes maxL ret).before a0 Z = true) (wz : (Jvm.Cond.initialized y.cls).before a0 Z = true) (hf : rm.frames + 1 ≤ R.frames) (hl : Wd + (maxL + 11) + rm.locals ≤ R.locals) (hEL : EW Z a0 EL) :
    PayW EL l R p e below Z y Wd as' h rm.cells rm.slots ws Q := by
  intro s vm0 args hZ H
  refine backOfSH (Q := fun v h' L => Q v h' ∧ Fr Z.heap.size L ∧ Keep h h' ws) ?_ hZ wc wz hf hl hEL H
  intro p e h1 h2 h3 s m args below h4 h5 h6 h7
  obtain ⟨n, o, q1, q2, q3, v, L, rfl, hq, hC, -⟩ := hM p e h1 h2 h3 s m args below h4 h5 ⟨h6.1, h6.2.1, h6.2.2.1, fun _ => h6.2.2.2⟩ h7
  exact ⟨n, _, q1, q2, q3, v, L, rfl, hq, (hC rfl).1, (hC rfl).2⟩
theorem go_old {g0 : JFrame} (k : Old Z Z.heap.size h → Go W EL Z a0 own p l e R s m args below meth c F h cells slots (g0)) : Go W EL Z a0 own p l e R s m args below meth c F h cells slots (g0) := by
  intro T P
  exact k P.choose_spec.choose_spec.choose_spec.2.2.2.2.2.2.2.2.2.2.2 T P
theorem go_pure {g g' : JFrame} (stp : ∀ T : State, At T m c below → p.tables.exec = Jvm.exec → ∀ target, Steps p.tables e below (T.setTop g') target → Steps p.tables e below (T.setTop g) target) (k : Go W EL Z a0 own p l e R s m args below meth c F h cells slots (g')) : Go W EL Z a0 own p l e R s m args below meth c F h cells slots (g) := by
  intro T P
  obtain ⟨t, o, h1, h2⟩ := k T P
  obtain ⟨vm0, k0, locs, -, X, -, hx, -⟩ := P
  exact ⟨t, o, stp T X.here hx _ h1, h2⟩
theorem go_iconst {i : Int} {v : Int32} (hd : decode c.code pc = .ok (.iconst i, 1)) (hp : pc + 1 = pc') (hv : Int32.ofInt i = v) (k : Go W EL Z a0 own p l e R s m args below meth c F h cells slots (mkF m pc' ls (.int v :: st))) : Go W EL Z a0 own p l e R s m args below meth c F h cells slots (mkF m pc ls st) := by
  subst hp hv
  exact go_pure (fun T ha hx target hr => XS.iconst ha hx rfl hd hr) k
theorem go_bipush {i : Int} {v : Int32} (hd : decode c.code pc = .ok (.bipush i, 2)) (hp : pc + 2 = pc') (hv : (Int8.ofInt i).toInt32 = v) (k : Go W EL Z a0 own p l e R s m args below meth c F h cells slots (mkF m pc' ls (.int v :: st))) : Go W EL Z a0 own p l e R s m args below meth c F h cells slots (mkF m pc ls st) := by
  subst hp hv
  exact go_pure (fun T ha hx target hr => XS.bipush ha hx rfl hd hr) k
theorem go_sipush {i : Int} {v : Int32} (hd : decode c.code pc = .ok (.sipush i, 3)) (hp : pc + 3 = pc') (hv : (Int16.ofInt i).toInt32 = v) (k : Go W EL Z a0 own p l e R s m args below meth c F h cells slots (mkF m pc' ls (.int v :: st))) : Go W EL Z a0 own p l e R s m args below meth c F h cells slots (mkF m pc ls st) := by
  subst hp hv
  exact go_pure (fun T ha hx target hr => XS.sipush ha hx rfl hd hr) k
theorem go_aconst_null  (hd : decode c.code pc = .ok (.aconst_null, 1)) (hp : pc + 1 = pc')  (k : Go W EL Z a0 own p l e R s m args below meth c F h cells slots (mkF m pc' ls (.null :: st))) : Go W EL Z a0 own p l e R s m args below meth c F h cells slots (mkF m pc ls (st)) := by
  subst hp
  exact go_pure (fun T ha hx target hr => XS.aconstNull ha hx rfl hd hr) k
theorem go_aload_n {i : Fin 4} {v : Value} (hd : decode c.code pc = .ok (.aload_n i, 1)) (hp : pc + 1 = pc') (hl : ls[i.val]? = some (.val v)) (hv : v.isRef = true) (k : Go W EL Z a0 own p l e R s m args below meth c F h cells slots (mkF m pc' ls (v :: st))) : Go W EL Z a0 own p l e R s m args below meth c F h cells slots (mkF m pc ls (st)) := by
  subst hp
  exact go_pure (fun T ha hx target hr => XS.aloadN ha hx rfl hd hl hv hr) k
theorem go_aload {i : Nat} {v : Value} (hd : decode c.code pc = .ok (.aload i, 2)) (hp : pc + 2 = pc') (hl : ls[i]? = some (.val v)) (hv : v.isRef = true) (k : Go W EL Z a0 own p l e R s m args below meth c F h cells slots (mkF m pc' ls (v :: st))) : Go W EL Z a0 own p l e R s m args below meth c F h cells slots (mkF m pc ls (st)) := by
  subst hp
  exact go_pure (fun T ha hx target hr => XS.aload ha hx rfl hd hl hv hr) k
theorem go_iload_n {i : Fin 4} {v : Int32} (hd : decode c.code pc = .ok (.iload_n i, 1)) (hp : pc + 1 = pc') (hl : ls[i.val]? = some (.val (.int v))) (k : Go W EL Z a0 own p l e R s m args below meth c F h cells slots (mkF m pc' ls (.int v :: st))) : Go W EL Z a0 own p l e R s m args below meth c F h cells slots (mkF m pc ls (st)) := by
  subst hp
  exact go_pure (fun T ha hx target hr => XS.iloadN ha hx rfl hd hl hr) k
theorem go_iload {i : Nat} {v : Int32} (hd : decode c.code pc = .ok (.iload i, 2)) (hp : pc + 2 = pc') (hl : ls[i]? = some (.val (.int v))) (k : Go W EL Z a0 own p l e R s m args below meth c F h cells slots (mkF m pc' ls (.int v :: st))) : Go W EL Z a0 own p l e R s m args below meth c F h cells slots (mkF m pc ls (st)) := by
  subst hp
  exact go_pure (fun T ha hx target hr => XS.iload ha hx rfl hd hl hr) k
theorem go_lload_n {i : Fin 4} {v : Int64} (hd : decode c.code pc = .ok (.lload_n i, 1)) (hp : pc + 1 = pc') (hl : ls[i.val]? = some (.val (.long v))) (k : Go W EL Z a0 own p l e R s m args below meth c F h cells slots (mkF m pc' ls (.long v :: st))) : Go W EL Z a0 own p l e R s m args below meth c F h cells slots (mkF m pc ls (st)) := by
  subst hp
  exact go_pure (fun T ha hx target hr => XT.lloadN ha hx rfl hd hl hr) k
theorem go_lload {i : Nat} {v : Int64} (hd : decode c.code pc = .ok (.lload i, 2)) (hp : pc + 2 = pc') (hl : ls[i]? = some (.val (.long v))) (k : Go W EL Z a0 own p l e R s m args below meth c F h cells slots (mkF m pc' ls (.long v :: st))) : Go W EL Z a0 own p l e R s m args below meth c F h cells slots (mkF m pc ls (st)) := by
  subst hp
  exact go_pure (fun T ha hx target hr => XT.lload ha hx rfl hd hl hr) k
theorem go_istore_n {i : Fin 4} {v : Int32} (hd : decode c.code pc = .ok (.istore_n i, 1)) (hp : pc + 1 = pc') (hl : storeLocals ls i.val (.int v) = some ls') (k : Go W EL Z a0 own p l e R s m args below meth c F h cells slots (mkF m pc' ls' (st))) : Go W EL Z a0 own p l e R s m args below meth c F h cells slots (mkF m pc ls (.int v :: st)) := by
  subst hp
  exact go_pure (fun T ha hx target hr => XS.istoreN ha hx rfl hd rfl hl hr) k
theorem go_istore {i : Nat} {v : Int32} (hd : decode c.code pc = .ok (.istore i, 2)) (hp : pc + 2 = pc') (hl : storeLocals ls i (.int v) = some ls') (k : Go W EL Z a0 own p l e R s m args below meth c F h cells slots (mkF m pc' ls' (st))) : Go W EL Z a0 own p l e R s m args below meth c F h cells slots (mkF m pc ls (.int v :: st)) := by
  subst hp
  exact go_pure (fun T ha hx target hr => XS.istore ha hx rfl hd rfl hl hr) k
theorem go_astore_n {i : Fin 4} {v : Value} (hd : decode c.code pc = .ok (.astore_n i, 1)) (hp : pc + 1 = pc') (hv : v.isRef = true) (hl : storeLocals ls i.val v = some ls') (k : Go W EL Z a0 own p l e R s m args below meth c F h cells slots (mkF m pc' ls' (st))) : Go W EL Z a0 own p l e R s m args below meth c F h cells slots (mkF m pc ls (v :: st)) := by
  subst hp
  exact go_pure (fun T ha hx target hr => XS.astoreN ha hx rfl hd rfl hv hl hr) k
theorem go_astore {i : Nat} {v : Value} (hd : decode c.code pc = .ok (.astore i, 2)) (hp : pc + 2 = pc') (hv : v.isRef = true) (hl : storeLocals ls i v = some ls') (k : Go W EL Z a0 own p l e R s m args below meth c F h cells slots (mkF m pc' ls' (st))) : Go W EL Z a0 own p l e R s m args below meth c F h cells slots (mkF m pc ls (v :: st)) := by
  subst hp
  exact go_pure (fun T ha hx target hr => XS.astore ha hx rfl hd rfl hv hl hr) k
theorem go_lstore_n {i : Fin 4} {v : Int64} (hd : decode c.code pc = .ok (.lstore_n i, 1)) (hp : pc + 1 = pc') (hl : storeLocals ls i.val (.long v) = some ls') (k : Go W EL Z a0 own p l e R s m args below meth c F h cells slots (mkF m pc' ls' (st))) : Go W EL Z a0 own p l e R s m args below meth c F h cells slots (mkF m pc ls (.long v :: st)) := by
  subst hp
  exact go_pure (fun T ha hx target hr => XT.lstoreN ha hx rfl hd rfl hl hr) k
theorem go_lstore {i : Nat} {v : Int64} (hd : decode c.code pc = .ok (.lstore i, 2)) (hp : pc + 2 = pc') (hl : storeLocals ls i (.long v) = some ls') (k : Go W EL Z a0 own p l e R s m args below meth c F h cells slots (mkF m pc' ls' (st))) : Go W EL Z a0 own p l e R s m args below meth c F h cells slots (mkF m pc ls (.long v :: st)) := by
  subst hp
  exact go_pure (fun T ha hx target hr => XT.lstore ha hx rfl hd rfl hl hr) k
theorem go_iadd {x y z : Int32} (hd : decode c.code pc = .ok (.iadd, 1)) (hp : pc + 1 = pc') (hz : x + y = z) (k : Go W EL Z a0 own p l e R s m args below meth c F h cells slots (mkF m pc' ls (.int z :: st))) : Go W EL Z a0 own p l e R s m args below meth c F h cells slots (mkF m pc ls (.int y :: .int x :: st)) := by
  subst hp hz
  exact go_pure (fun T ha hx target hr => XS.iadd ha hx rfl hd rfl hr) k
theorem go_isub {x y z : Int32} (hd : decode c.code pc = .ok (.isub, 1)) (hp : pc + 1 = pc') (hz : x - y = z) (k : Go W EL Z a0 own p l e R s m args below meth c F h cells slots (mkF m pc' ls (.int z :: st))) : Go W EL Z a0 own p l e R s m args below meth c F h cells slots (mkF m pc ls (.int y :: .int x :: st)) := by
  subst hp hz
  exact go_pure (fun T ha hx target hr => XS.isub ha hx rfl hd rfl hr) k
theorem go_imul {x y z : Int32} (hd : decode c.code pc = .ok (.imul, 1)) (hp : pc + 1 = pc') (hz : x * y = z) (k : Go W EL Z a0 own p l e R s m args below meth c F h cells slots (mkF m pc' ls (.int z :: st))) : Go W EL Z a0 own p l e R s m args below meth c F h cells slots (mkF m pc ls (.int y :: .int x :: st)) := by
  subst hp hz
  exact go_pure (fun T ha hx target hr => XS.imul ha hx rfl hd rfl hr) k
theorem go_iand {x y z : Int32} (hd : decode c.code pc = .ok (.iand, 1)) (hp : pc + 1 = pc') (hz : x &&& y = z) (k : Go W EL Z a0 own p l e R s m args below meth c F h cells slots (mkF m pc' ls (.int z :: st))) : Go W EL Z a0 own p l e R s m args below meth c F h cells slots (mkF m pc ls (.int y :: .int x :: st)) := by
  subst hp hz
  exact go_pure (fun T ha hx target hr => XS.iand ha hx rfl hd rfl hr) k
theorem go_ior {x y z : Int32} (hd : decode c.code pc = .ok (.ior, 1)) (hp : pc + 1 = pc') (hz : x ||| y = z) (k : Go W EL Z a0 own p l e R s m args below meth c F h cells slots (mkF m pc' ls (.int z :: st))) : Go W EL Z a0 own p l e R s m args below meth c F h cells slots (mkF m pc ls (.int y :: .int x :: st)) := by
  subst hp hz
  exact go_pure (fun T ha hx target hr => XT.ior ha hx rfl hd rfl hr) k
theorem go_ixor {x y z : Int32} (hd : decode c.code pc = .ok (.ixor, 1)) (hp : pc + 1 = pc') (hz : x ^^^ y = z) (k : Go W EL Z a0 own p l e R s m args below meth c F h cells slots (mkF m pc' ls (.int z :: st))) : Go W EL Z a0 own p l e R s m args below meth c F h cells slots (mkF m pc ls (.int y :: .int x :: st)) := by
  subst hp hz
  exact go_pure (fun T ha hx target hr => XT.ixor ha hx rfl hd rfl hr) k
theorem go_ishl {x y z : Int32} (hd : decode c.code pc = .ok (.ishl, 1)) (hp : pc + 1 = pc') (hz : x <<< (y &&& 31) = z) (k : Go W EL Z a0 own p l e R s m args below meth c F h cells slots (mkF m pc' ls (.int z :: st))) : Go W EL Z a0 own p l e R s m args below meth c F h cells slots (mkF m pc ls (.int y :: .int x :: st)) := by
  subst hp hz
  exact go_pure (fun T ha hx target hr => XT.ishl ha hx rfl hd rfl hr) k
theorem go_ishr {x y z : Int32} (hd : decode c.code pc = .ok (.ishr, 1)) (hp : pc + 1 = pc') (hz : x >>> (y &&& 31) = z) (k : Go W EL Z a0 own p l e R s m args below meth c F h cells slots (mkF m pc' ls (.int z :: st))) : Go W EL Z a0 own p l e R s m args below meth c F h cells slots (mkF m pc ls (.int y :: .int x :: st)) := by
  subst hp hz
  exact go_pure (fun T ha hx target hr => XT.ishr ha hx rfl hd rfl hr) k
theorem go_iushr {x y z : Int32} (hd : decode c.code pc = .ok (.iushr, 1)) (hp : pc + 1 = pc') (hz : XT.ushr x y = z) (k : Go W EL Z a0 own p l e R s m args below meth c F h cells slots (mkF m pc' ls (.int z :: st))) : Go W EL Z a0 own p l e R s m args below meth c F h cells slots (mkF m pc ls (.int y :: .int x :: st)) := by
  subst hp hz
  exact go_pure (fun T ha hx target hr => XT.iushr ha hx rfl hd rfl hr) k
theorem go_idiv {x y z : Int32} (hd : decode c.code pc = .ok (.idiv, 1)) (hp : pc + 1 = pc') (hy : y ≠ 0) (hz : x / y = z) (k : Go W EL Z a0 own p l e R s m args below meth c F h cells slots (mkF m pc' ls (.int z :: st))) : Go W EL Z a0 own p l e R s m args below meth c F h cells slots (mkF m pc ls (.int y :: .int x :: st)) := by
  subst hp hz
  exact go_pure (fun T ha hx target hr => XS.idiv ha hx rfl hd rfl hy hr) k
theorem go_irem {x y z : Int32} (hd : decode c.code pc = .ok (.irem, 1)) (hp : pc + 1 = pc') (hy : y ≠ 0) (hz : x % y = z) (k : Go W EL Z a0 own p l e R s m args below meth c F h cells slots (mkF m pc' ls (.int z :: st))) : Go W EL Z a0 own p l e R s m args below meth c F h cells slots (mkF m pc ls (.int y :: .int x :: st)) := by
  subst hp hz
  intro T P
  obtain ⟨t, o, h1, h2⟩ := k T P
  obtain ⟨vm0, k0, locs, -, X, -, hx, -⟩ := P
  exact ⟨t, o, iremM X hx rfl hd rfl hy h1, h2⟩
theorem go_ineg {x : Int32} {z : Int32} (hd : decode c.code pc = .ok (.ineg, 1)) (hp : pc + 1 = pc') (hz : -x = z) (k : Go W EL Z a0 own p l e R s m args below meth c F h cells slots (mkF m pc' ls (.int z :: st))) : Go W EL Z a0 own p l e R s m args below meth c F h cells slots (mkF m pc ls (.int x :: st)) := by
  subst hp hz
  exact go_pure (fun T ha hx target hr => XS.ineg ha hx rfl hd rfl hr) k
theorem go_i2c {x : Int32} {z : Int32} (hd : decode c.code pc = .ok (.i2c, 1)) (hp : pc + 1 = pc') (hz : x.toUInt32.toUInt16.toUInt32.toInt32 = z) (k : Go W EL Z a0 own p l e R s m args below meth c F h cells slots (mkF m pc' ls (.int z :: st))) : Go W EL Z a0 own p l e R s m args below meth c F h cells slots (mkF m pc ls (.int x :: st)) := by
  subst hp hz
  exact go_pure (fun T ha hx target hr => XT.i2c ha hx rfl hd rfl hr) k
theorem go_i2b {x : Int32} {z : Int32} (hd : decode c.code pc = .ok (.i2b, 1)) (hp : pc + 1 = pc') (hz : x.toInt8.toInt32 = z) (k : Go W EL Z a0 own p l e R s m args below meth c F h cells slots (mkF m pc' ls (.int z :: st))) : Go W EL Z a0 own p l e R s m args below meth c F h cells slots (mkF m pc ls (.int x :: st)) := by
  subst hp hz
  exact go_pure (fun T ha hx target hr => XT.i2b ha hx rfl hd rfl hr) k
theorem go_i2l {x : Int32} {z : Int64} (hd : decode c.code pc = .ok (.i2l, 1)) (hp : pc + 1 = pc') (hz : x.toInt64 = z) (k : Go W EL Z a0 own p l e R s m args below meth c F h cells slots (mkF m pc' ls (.long z :: st))) : Go W EL Z a0 own p l e R s m args below meth c F h cells slots (mkF m pc ls (.int x :: st)) := by
  subst hp hz
  exact go_pure (fun T ha hx target hr => XT.i2l ha hx rfl hd rfl hr) k
theorem go_l2i {x : Int64} {z : Int32} (hd : decode c.code pc = .ok (.l2i, 1)) (hp : pc + 1 = pc') (hz : x.toInt32 = z) (k : Go W EL Z a0 own p l e R s m args below meth c F h cells slots (mkF m pc' ls (.int z :: st))) : Go W EL Z a0 own p l e R s m args below meth c F h cells slots (mkF m pc ls (.long x :: st)) := by
  subst hp hz
  exact go_pure (fun T ha hx target hr => XT.l2i ha hx rfl hd rfl hr) k
theorem go_lneg {x : Int64} {z : Int64} (hd : decode c.code pc = .ok (.lneg, 1)) (hp : pc + 1 = pc') (hz : -x = z) (k : Go W EL Z a0 own p l e R s m args below meth c F h cells slots (mkF m pc' ls (.long z :: st))) : Go W EL Z a0 own p l e R s m args below meth c F h cells slots (mkF m pc ls (.long x :: st)) := by
  subst hp hz
  exact go_pure (fun T ha hx target hr => XT.lneg ha hx rfl hd rfl hr) k
theorem go_land {x y z : Int64} (hd : decode c.code pc = .ok (.land, 1)) (hp : pc + 1 = pc') (hz : x &&& y = z) (k : Go W EL Z a0 own p l e R s m args below meth c F h cells slots (mkF m pc' ls (.long z :: st))) : Go W EL Z a0 own p l e R s m args below meth c F h cells slots (mkF m pc ls (.long y :: .long x :: st)) := by
  subst hp hz
  exact go_pure (fun T ha hx target hr => XT.land ha hx rfl hd rfl hr) k
theorem go_ladd {x y z : Int64} (hd : decode c.code pc = .ok (.ladd, 1)) (hp : pc + 1 = pc') (hz : x + y = z) (k : Go W EL Z a0 own p l e R s m args below meth c F h cells slots (mkF m pc' ls (.long z :: st))) : Go W EL Z a0 own p l e R s m args below meth c F h cells slots (mkF m pc ls (.long y :: .long x :: st)) := by
  subst hp hz
  exact go_pure (fun T ha hx target hr => XT.ladd ha hx rfl hd rfl hr) k
theorem go_lsub {x y z : Int64} (hd : decode c.code pc = .ok (.lsub, 1)) (hp : pc + 1 = pc') (hz : x - y = z) (k : Go W EL Z a0 own p l e R s m args below meth c F h cells slots (mkF m pc' ls (.long z :: st))) : Go W EL Z a0 own p l e R s m args below meth c F h cells slots (mkF m pc ls (.long y :: .long x :: st)) := by
  subst hp hz
  exact go_pure (fun T ha hx target hr => XT.lsub ha hx rfl hd rfl hr) k
theorem go_ldiv {x y z : Int64} (hd : decode c.code pc = .ok (.ldiv, 1)) (hp : pc + 1 = pc') (hy : y ≠ 0) (hz : x / y = z) (k : Go W EL Z a0 own p l e R s m args below meth c F h cells slots (mkF m pc' ls (.long z :: st))) : Go W EL Z a0 own p l e R s m args below meth c F h cells slots (mkF m pc ls (.long y :: .long x :: st)) := by
  subst hp hz
  exact go_pure (fun T ha hx target hr => XT.ldiv ha hx rfl hd rfl hy hr) k
theorem go_lrem {x y z : Int64} (hd : decode c.code pc = .ok (.lrem, 1)) (hp : pc + 1 = pc') (hy : y ≠ 0) (hz : x - (x / y) * y = z) (k : Go W EL Z a0 own p l e R s m args below meth c F h cells slots (mkF m pc' ls (.long z :: st))) : Go W EL Z a0 own p l e R s m args below meth c F h cells slots (mkF m pc ls (.long y :: .long x :: st)) := by
  subst hp hz
  exact go_pure (fun T ha hx target hr => XT.lrem ha hx rfl hd rfl hy hr) k
theorem go_lcmp {x y : Int64} (hd : decode c.code pc = .ok (.lcmp, 1)) (hp : pc + 1 = pc') (k : Go W EL Z a0 own p l e R s m args below meth c F h cells slots (mkF m pc' ls (.int (XT.cmpL x y) :: st))) : Go W EL Z a0 own p l e R s m args below meth c F h cells slots (mkF m pc ls (.long y :: .long x :: st)) := by
  subst hp
  exact go_pure (fun T ha hx target hr => XT.lcmp ha hx rfl hd rfl hr) k
theorem go_lushr {x z : Int64} {y : Int32} (hd : decode c.code pc = .ok (.lushr, 1)) (hp : pc + 1 = pc') (hz : XT.ushrL x y = z) (k : Go W EL Z a0 own p l e R s m args below meth c F h cells slots (mkF m pc' ls (.long z :: st))) : Go W EL Z a0 own p l e R s m args below meth c F h cells slots (mkF m pc ls (.int y :: .long x :: st)) := by
  subst hp hz
  exact go_pure (fun T ha hx target hr => XT.lushr ha hx rfl hd rfl hr) k
theorem go_lconst {i : Fin 2} {v : Int64} (hd : decode c.code pc = .ok (.lconst i, 1)) (hp : pc + 1 = pc') (hv : Int64.ofNat i = v) (k : Go W EL Z a0 own p l e R s m args below meth c F h cells slots (mkF m pc' ls (.long v :: st))) : Go W EL Z a0 own p l e R s m args below meth c F h cells slots (mkF m pc ls st) := by
  subst hp hv
  exact go_pure (fun T ha hx target hr => XT.lconst ha hx rfl hd hr) k
theorem go_dup {v : Value} (hd : decode c.code pc = .ok (.dup, 1)) (hp : pc + 1 = pc') (hc : v.category = 1) (k : Go W EL Z a0 own p l e R s m args below meth c F h cells slots (mkF m pc' ls (v :: v :: st))) : Go W EL Z a0 own p l e R s m args below meth c F h cells slots (mkF m pc ls (v :: st)) := by
  subst hp
  exact go_pure (fun T ha hx target hr => XS.dup ha hx rfl hd rfl hc hr) k
theorem go_dup_x1 {v w : Value} (hd : decode c.code pc = .ok (.dup_x1, 1)) (hp : pc + 1 = pc') (hc : v.category = 1) (hc' : w.category = 1) (k : Go W EL Z a0 own p l e R s m args below meth c F h cells slots (mkF m pc' ls (v :: w :: v :: st))) : Go W EL Z a0 own p l e R s m args below meth c F h cells slots (mkF m pc ls (v :: w :: st)) := by
  subst hp
  exact go_pure (fun T ha hx target hr => XT.dupX1 ha hx rfl hd rfl hc hc' hr) k
theorem go_pop {v : Value} (hd : decode c.code pc = .ok (.pop, 1)) (hp : pc + 1 = pc') (hc : v.category = 1) (k : Go W EL Z a0 own p l e R s m args below meth c F h cells slots (mkF m pc' ls (st))) : Go W EL Z a0 own p l e R s m args below meth c F h cells slots (mkF m pc ls (v :: st)) := by
  subst hp
  exact go_pure (fun T ha hx target hr => XT.pop ha hx rfl hd rfl hc hr) k
theorem go_iinc {i : Nat} {q : Int} {x : Int32} (hd : decode c.code pc = .ok (.iinc i q, 3)) (hp : pc + 3 = pc') (hl : ls[i]? = some (.val (.int x))) {y : Int32} (hy : x + Int32.ofInt q = y) (hl' : storeLocals ls i (.int y) = some ls') (k : Go W EL Z a0 own p l e R s m args below meth c F h cells slots (mkF m pc' ls' st)) : Go W EL Z a0 own p l e R s m args below meth c F h cells slots (mkF m pc ls st) := by
  subst hp hy
  exact go_pure (fun T ha hx target hr => XS.iinc ha hx rfl hd hl hl' hr) k
theorem go_goto {o : Int} (hd : decode c.code pc = .ok (.goto o, 3)) (ho : 0 ≤ (pc : Int) + o) (hp : ((pc : Int) + o).toNat = pc') (k : Go W EL Z a0 own p l e R s m args below meth c F h cells slots (mkF m pc' ls st)) : Go W EL Z a0 own p l e R s m args below meth c F h cells slots (mkF m pc ls st) :=
  go_pure (fun T ha hx target hr => XS.goto ha hx rfl rfl hd ho hp hr) k
theorem go_ifT {o : Int} {cd : ClassFile.Cond} {x : Int32} (hd : decode c.code pc = .ok (.ifCond cd o, 3)) (ho : 0 ≤ (pc : Int) + o) (hp : ((pc : Int) + o).toNat = pc') (hc : ifCond.holds cd x = true) (k : Go W EL Z a0 own p l e R s m args below meth c F h cells slots (mkF m pc' ls st)) : Go W EL Z a0 own p l e R s m args below meth c F h cells slots (mkF m pc ls (.int x :: st)) :=
  go_pure (fun T ha hx target hr => XS.ifYes ha hx rfl rfl hd rfl hc ho hp hr) k
theorem go_ifF {o : Int} {cd : ClassFile.Cond} {x : Int32} (hd : decode c.code pc = .ok (.ifCond cd o, 3)) (hp : pc + 3 = pc') (hc : ifCond.holds cd x = false) (k : Go W EL Z a0 own p l e R s m args below meth c F h cells slots (mkF m pc' ls st)) : Go W EL Z a0 own p l e R s m args below meth c F h cells slots (mkF m pc ls (.int x :: st)) := by
  subst hp
  exact go_pure (fun T ha hx target hr => XS.ifNo ha hx rfl hd rfl hc hr) k
theorem go_icT {o : Int} {cd : ClassFile.Cond} {x y : Int32} (hd : decode c.code pc = .ok (.if_icmp cd o, 3)) (ho : 0 ≤ (pc : Int) + o) (hp : ((pc : Int) + o).toNat = pc') (hc : if_icmp.holds cd x y = true) (k : Go W EL Z a0 own p l e R s m args below meth c F h cells slots (mkF m pc' ls st)) : Go W EL Z a0 own p l e R s m args below meth c F h cells slots (mkF m pc ls (.int y :: .int x :: st)) :=
  go_pure (fun T ha hx target hr => XS.icmpYes ha hx rfl rfl hd rfl hc ho hp hr) k
theorem go_icF {o : Int} {cd : ClassFile.Cond} {x y : Int32} (hd : decode c.code pc = .ok (.if_icmp cd o, 3)) (hp : pc + 3 = pc') (hc : if_icmp.holds cd x y = false) (k : Go W EL Z a0 own p l e R s m args below meth c F h cells slots (mkF m pc' ls st)) : Go W EL Z a0 own p l e R s m args below meth c F h cells slots (mkF m pc ls (.int y :: .int x :: st)) := by
  subst hp
  exact go_pure (fun T ha hx target hr => XS.icmpNo ha hx rfl hd rfl hc hr) k
theorem go_acT {o : Int} {cd : ClassFile.ACond} {x y : Value} (hd : decode c.code pc = .ok (.if_acmp cd o, 3)) (ho : 0 ≤ (pc : Int) + o) (hp : ((pc : Int) + o).toNat = pc') (hx1 : x.isRef = true) (hy1 : y.isRef = true) (hc : XT.acmp cd x y = true) (k : Go W EL Z a0 own p l e R s m args below meth c F h cells slots (mkF m pc' ls st)) : Go W EL Z a0 own p l e R s m args below meth c F h cells slots (mkF m pc ls (y :: x :: st)) :=
  go_pure (fun T ha hx target hr => XT.acmpYes ha hx rfl rfl hd rfl hx1 hy1 hc ho hp hr) k
theorem go_acF {o : Int} {cd : ClassFile.ACond} {x y : Value} (hd : decode c.code pc = .ok (.if_acmp cd o, 3)) (hp : pc + 3 = pc') (hx1 : x.isRef = true) (hy1 : y.isRef = true) (hc : XT.acmp cd x y = false) (k : Go W EL Z a0 own p l e R s m args below meth c F h cells slots (mkF m pc' ls st)) : Go W EL Z a0 own p l e R s m args below meth c F h cells slots (mkF m pc ls (y :: x :: st)) := by
  subst hp
  exact go_pure (fun T ha hx target hr => XT.acmpNo ha hx rfl hd rfl hx1 hy1 hc hr) k
theorem go_nullT {o : Int} (hd : decode c.code pc = .ok (.ifnull o, 3)) (ho : 0 ≤ (pc : Int) + o) (hp : ((pc : Int) + o).toNat = pc') (k : Go W EL Z a0 own p l e R s m args below meth c F h cells slots (mkF m pc' ls st)) : Go W EL Z a0 own p l e R s m args below meth c F h cells slots (mkF m pc ls (.null :: st)) :=
  go_pure (fun T ha hx target hr => XS.ifnullYes ha hx rfl rfl hd rfl ho hp hr) k
theorem go_nullF {o : Int} {b : Addr} (hd : decode c.code pc = .ok (.ifnull o, 3)) (hp : pc + 3 = pc') (k : Go W EL Z a0 own p l e R s m args below meth c F h cells slots (mkF m pc' ls st)) : Go W EL Z a0 own p l e R s m args below meth c F h cells slots (mkF m pc ls (.ref b :: st)) := by
  subst hp
  exact go_pure (fun T ha hx target hr => XS.ifnullNo ha hx rfl hd rfl hr) k
theorem go_nnT {o : Int} {b : Addr} (hd : decode c.code pc = .ok (.ifnonnull o, 3)) (ho : 0 ≤ (pc : Int) + o) (hp : ((pc : Int) + o).toNat = pc') (k : Go W EL Z a0 own p l e R s m args below meth c F h cells slots (mkF m pc' ls st)) : Go W EL Z a0 own p l e R s m args below meth c F h cells slots (mkF m pc ls (.ref b :: st)) :=
  go_pure (fun T ha hx target hr => XT.ifnonnullYes ha hx rfl rfl hd rfl ho hp hr) k
theorem go_nnF {o : Int} (hd : decode c.code pc = .ok (.ifnonnull o, 3)) (hp : pc + 3 = pc') (k : Go W EL Z a0 own p l e R s m args below meth c F h cells slots (mkF m pc' ls st)) : Go W EL Z a0 own p l e R s m args below meth c F h cells slots (mkF m pc ls (.null :: st)) := by
  subst hp
  exact go_pure (fun T ha hx target hr => XT.ifnonnullNo ha hx rfl hd rfl hr) k
theorem go_getF {a : Addr} {v : Value} {R0 O n d : String} {index : Nat} (w : (Jvm.Cond.fieldLink own index R0 n d).before a0 Z = true) (via : Via Z R0 O n d) (F0 : Fld Z h a O n d v) (hd : decode c.code pc = .ok (.getfield index, 3)) (hp : pc + 3 = pc') (k : Go W EL Z a0 own p l e R s m args below meth c F h cells slots (mkF m pc' ls (v :: st))) : Go W EL Z a0 own p l e R s m args below meth c F h cells slots (mkF m pc ls (.ref a :: st)) := by
  subst hp
  intro T P
  obtain ⟨vm0, k0, locs, hWf, X, eT, hx, hZ, hown, hS, hk, hEL, hC, hN, hO⟩ := P
  obtain ⟨T', X', e', st'⟩ := getF X hx hZ hown (host := "") (Or.inl w) via eT F0 (g := mkF m pc ls (.ref a :: st)) rfl rfl hd
  obtain ⟨t, o, h1, h2⟩ := k T' ⟨vm0, k0, locs, hWf, X', e', hx, hZ, hown, hS, hk, hEL, hC, hN, hO⟩
  exact ⟨t, o, st' _ h1, h2⟩
theorem go_getS {v : Value} {O n d : String} {index : Nat} (w : (Jvm.Cond.fieldLink own index O n d).before a0 Z = true) (F0 : Sta Z h O n d v) (hd : decode c.code pc = .ok (.getstatic index, 3)) (hp : pc + 3 = pc') (k : Go W EL Z a0 own p l e R s m args below meth c F h cells slots (mkF m pc' ls (v :: st))) : Go W EL Z a0 own p l e R s m args below meth c F h cells slots (mkF m pc ls st) := by
  subst hp
  intro T P
  obtain ⟨vm0, k0, locs, hWf, X, eT, hx, hZ, hown, hS, hk, hEL, hC, hN, hO⟩ := P
  obtain ⟨T', X', e', st'⟩ := getS X hx hZ hown (host := "") w Via.refl eT F0 (g := mkF m pc ls st) rfl hd
  obtain ⟨t, o, h1, h2⟩ := k T' ⟨vm0, k0, locs, hWf, X', e', hx, hZ, hown, hS, hk, hEL, hC, hN, hO⟩
  exact ⟨t, o, st' _ h1, h2⟩
theorem safe_of {vm : Vm} {a : Addr} {C : String} (hal : Z.vm.Alike vm) (E : Exa Z h a C) (hs : (C ≠ "java/lang/String" ∧ C ≠ "[B") ∨ EL = []) : Safe Z EL vm h a := by
  rcases hs with hs | rfl
  · exact Safe.exa hal E hs.1 hs.2
  · exact safe_nil
theorem go_putF {a : Addr} {v v' old : Value} {R0 O n d C : String} {index kk : Nat} {ty : FieldType} (w : (Jvm.Cond.fieldLink own index R0 n d).before a0 Z = true) (via : Via Z R0 O n d) (F0 : Fld Z h a O n d old) (E : Exa Z h a C) (L : (Jvm.Cond.lays C O n d).before a0 Z = true ∨ ((Jvm.Cond.laysFinal C O n d).before a0 Z = true ∧ own = O ∧ meth.name = "<init>")) (wi : (Jvm.Cond.instantiable C kk).before a0 Z = true)
    (hty : parseFieldDescriptor d = some ty) (hn : narrow ty v = v') (hf : fits ty v' = true) (ha : Z.heap.size ≤ a) (hs : (C ≠ "java/lang/String" ∧ C ≠ "[B") ∨ EL = []) (hd : decode c.code pc = .ok (.putfield index, 3)) (hp : pc + 3 = pc')
    (k : ∀ h', Wr h h' a (Jvm.RoadKit.slotOf Z O n d) v' → Go W EL Z a0 own p l e R s m args below meth c F h' cells slots (mkF m pc' ls st)) : Go W EL Z a0 own p l e R s m args below meth c F h cells slots (mkF m pc ls (v :: .ref a :: st)) := by
  subst hp
  intro T P
  obtain ⟨vm0, k0, locs, hWf, X, eT, hx, hZ, hown, hS, hk, hEL, hC, hN, hO⟩ := P
  obtain ⟨T', h', X', e', W', st'⟩ := putFN X hx hZ hown w via eT F0 E L wi hty hn hf (g := mkF m pc ls (v :: .ref a :: st)) rfl rfl hd
  have S0 : Safe Z EL vm0 h a := safe_of hZ.alike E hs
  obtain ⟨t, o, h1, h2⟩ := k h' W' T' ⟨vm0, k0, _, hWf, X', e', hx, hZ, hown, hS, by rw [W'.size]; exact hk, hEL, hC.trans (CHr.wr W' S0 hC.1), Fr.snoc X' hN ha, hO.wr W' ha⟩
  exact ⟨t, o, st' _ h1, h2⟩
theorem go_newO {C : String} {index n : Nat} (w : (Jvm.Cond.classLink own index C).before a0 Z = true) (wi : (Jvm.Cond.instantiable C n).before a0 Z = true) (wz : (Jvm.Cond.initialized C).before a0 Z = true) (hd : decode c.code pc = .ok (.new index, 3)) (hp : pc + 3 = pc') (hcl : cells + 1 = cells') (hsl : slots + n = slots') (hc : cells' ≤ R.cells) (hl : slots' ≤ R.slots)
    (k : ∀ (h' : Heap) (a : Addr), h.size = a → Ext h h' → Exa Z h' a C → (∀ {O nm d : String} {ty : FieldType}, Laid Z a0 C O nm d → parseFieldDescriptor d = some ty → Fld Z h' a O nm d (defaultValue ty)) → Unt h' a → Go W EL Z a0 own p l e R s m args below meth c F h' cells' slots' (mkF m pc' ls (.ref a :: st))) : Go W EL Z a0 own p l e R s m args below meth c F h cells slots (mkF m pc ls st) := by
  subst hp hcl hsl
  intro T P
  obtain ⟨vm0, k0, locs, hWf, X, eT, hx, hZ, hown, hS, hk, hEL, hC, hN, hO⟩ := P
  obtain ⟨T', h', X', e', E', A', D', U', st'⟩ := newO X hx hZ hown w wi wz eT (g := mkF m pc ls st) rfl hd hc hl
  obtain ⟨t, o, h1, h2⟩ := k h' h.size rfl E' A' D' U' T' ⟨vm0, k0, _, hWf, X', e', hx, hZ, hown, hS, Nat.le_trans hk E'.1, hEL, hC.trans (CHr.ext E' hC.1), hN, hO.ext E'⟩
  exact ⟨t, o, st' _ h1, h2⟩
theorem go_newP {aty : ArrayType} {n : Int32} {cap : Nat} {vs : List Value} {ty : FieldType} {dv : Value} (w : (Jvm.Cond.arrayClass ty).before a0 Z = true) (hty : newarray.typeOf aty = ty) (hdv : defaultValue ty = dv) (hd : decode c.code pc = .ok (.newarray aty, 2)) (hp : pc + 2 = pc') (hn : ¬ n < 0) (hcap : n.toNatClampNeg = cap) (hb : cap * 8 ≤ 536870912) (hvs : List.replicate cap dv = vs) (hcl : cells + 1 = cells') (hsl : slots + cap = slots') (hc : cells' ≤ R.cells) (hl : slots' ≤ R.slots)
    (k : ∀ (h' : Heap) (a : Addr) (kA : ClassId), h.size = a → Ext h h' → Arv Z h' a kA ty n vs dv → Go W EL Z a0 own p l e R s m args below meth c F h' cells' slots' (mkF m pc' ls (.ref a :: st))) : Go W EL Z a0 own p l e R s m args below meth c F h cells slots (mkF m pc ls (.int n :: st)) := by
  subst hp hcl hsl hty hdv hvs
  intro T P
  obtain ⟨vm0, k0, locs, hWf, X, eT, hx, hZ, hown, hS, hk, hEL, hC, hN, hO⟩ := P
  obtain ⟨T', h', kA, X', e', E', A', st'⟩ := newP X hx hZ w eT (g := mkF m pc ls (.int n :: st)) rfl hd rfl hn (cap := cap) (Nat.le_of_eq hcap) hb hc hl
  have V : Arv Z h' h.size kA (newarray.typeOf aty) n (List.replicate cap (defaultValue (newarray.typeOf aty))) (defaultValue (newarray.typeOf aty)) := by
    have q := (Arv.new A' hn).pad (pad_rep [] (defaultValue (newarray.typeOf aty)) cap)
    simpa using q
  obtain ⟨t, o, h1, h2⟩ := k h' h.size kA rfl E' V T' ⟨vm0, k0, _, hWf, X', e', hx, hZ, hown, hS, Nat.le_trans hk E'.1, hEL, hC.trans (CHr.ext E' hC.1), hN, hO.ext E'⟩
  exact ⟨t, o, st' _ h1, h2⟩
theorem go_stC {a : Addr} {kA : ClassId} {z j x x' : Int32} {vs vs' : List Value} {dv : Value} {i : Nat} (A : Arv Z h a kA .char z vs dv) (ha : Z.heap.size ≤ a) (hj0 : ¬ j < 0) (hjz : j < z) (hji : j.toNatClampNeg = i) (hi : i < vs.length) (hx' : x.toUInt32.toUInt16.toUInt32.toInt32 = x') (hvs : vs.set i (.int x') = vs') (hd : decode c.code pc = .ok (.castore, 1)) (hp : pc + 1 = pc')
    (k : ∀ h', Wr h h' a i (.int x') → Arv Z h' a kA .char z vs' dv → Go W EL Z a0 own p l e R s m args below meth c F h' cells slots (mkF m pc' ls st)) : Go W EL Z a0 own p l e R s m args below meth c F h cells slots (mkF m pc ls (.int x :: .int j :: .ref a :: st)) := by
  subst hp hx' hvs hji
  intro T P
  obtain ⟨vm0, k0, locs, hWf, X, eT, hx, hZ, hown, hS, hk, hEL, hC, hN, hO⟩ := P
  obtain ⟨cl, Ar, q1, S1, N1, H1, G1⟩ := A
  obtain ⟨T', h', X', e', W', st'⟩ := stC X hx hZ eT Ar (j := j) (inb_of S1 ⟨hj0, hjz⟩) (g := mkF m pc ls (.int x :: .int j :: .ref a :: st)) rfl rfl hd
  have S0 : Safe Z EL vm0 h a := Safe.arr hZ.alike Ar (by decide)
  obtain ⟨t, o, h1, h2⟩ := k h' W' (Arv.set Ar q1 S1 N1 H1 G1 (fits_nar_char _) W' _ rfl hi) T' ⟨vm0, k0, _, hWf, X', e', hx, hZ, hown, hS, by rw [W'.size]; exact hk, hEL, hC.trans (CHr.wr W' S0 hC.1), Fr.snoc X' hN ha, hO.wr W' ha⟩
  exact ⟨t, o, st' _ h1, h2⟩
theorem go_stB {a : Addr} {kA : ClassId} {z j x x' : Int32} {vs vs' : List Value} {dv : Value} {i : Nat} (hE : EL = []) (A : Arv Z h a kA .byte z vs dv) (ha : Z.heap.size ≤ a) (hj0 : ¬ j < 0) (hjz : j < z) (hji : j.toNatClampNeg = i) (hi : i < vs.length) (hx' : x.toInt8.toInt32 = x') (hvs : vs.set i (.int x') = vs') (hd : decode c.code pc = .ok (.bastore, 1)) (hp : pc + 1 = pc')
    (k : ∀ h', Wr h h' a i (.int x') → Arv Z h' a kA .byte z vs' dv → Go W EL Z a0 own p l e R s m args below meth c F h' cells slots (mkF m pc' ls st)) : Go W EL Z a0 own p l e R s m args below meth c F h cells slots (mkF m pc ls (.int x :: .int j :: .ref a :: st)) := by
  subst hp hx' hvs hji hE
  intro T P
  obtain ⟨vm0, k0, locs, hWf, X, eT, hx, hZ, hown, hS, hk, hEL, hC, hN, hO⟩ := P
  obtain ⟨cl, Ar, q1, S1, N1, H1, G1⟩ := A
  obtain ⟨T', h', X', e', W', st'⟩ := stB X hx hZ eT Ar (j := j) (inb_of S1 ⟨hj0, hjz⟩) (g := mkF m pc ls (.int x :: .int j :: .ref a :: st)) rfl rfl hd
  obtain ⟨t, o, h1, h2⟩ := k h' W' (Arv.set Ar q1 S1 N1 H1 G1 (fits_nar_byte _) W' _ rfl hi) T' ⟨vm0, k0, _, hWf, X', e', hx, hZ, hown, hS, by rw [W'.size]; exact hk, hEL, hC.trans (CHr.wr W' safe_nil hC.1), Fr.snoc X' hN ha, hO.wr W' ha⟩
  exact ⟨t, o, st' _ h1, h2⟩
theorem go_caload {a : Addr} {kA : ClassId} {z j : Int32} {vs : List Value} {dv v : Value} {i : Nat} (A : Arv Z h a kA .char z vs dv) (hj0 : ¬ j < 0) (hjz : j < z) (hji : j.toNatClampNeg = i) (hv : vs.getD i dv = v) (hd : decode c.code pc = .ok (.caload, 1)) (hp : pc + 1 = pc')
    (k : Go W EL Z a0 own p l e R s m args below meth c F h cells slots (mkF m pc' ls (v :: st))) : Go W EL Z a0 own p l e R s m args below meth c F h cells slots (mkF m pc ls (.int j :: .ref a :: st)) := by
  subst hp hv hji
  intro T P
  obtain ⟨t, o, h1, h2⟩ := k T P
  obtain ⟨vm0, k0, locs, hWf, X, eT, hx, hZ, hown, hS, hk, hEL, hC, hN, hO⟩ := P
  obtain ⟨cl, Ar, q1, S1, N1, H1, G1⟩ := A
  have hin := inb_of S1 ⟨hj0, hjz⟩
  exact ⟨t, o, X.caload hx (by rw [eT]; exact Ar.1) (State.isArrayOf_alike hZ.alike Ar.2.1) Ar.2.2 hin (H1.at hin rfl) (g := mkF m pc ls (.int j :: .ref a :: st)) rfl rfl hd _ h1, h2⟩
theorem go_baload {a : Addr} {kA : ClassId} {z j : Int32} {vs : List Value} {dv v : Value} {i : Nat} (A : Arv Z h a kA .byte z vs dv) (hj0 : ¬ j < 0) (hjz : j < z) (hji : j.toNatClampNeg = i) (hv : vs.getD i dv = v) (hd : decode c.code pc = .ok (.baload, 1)) (hp : pc + 1 = pc')
    (k : Go W EL Z a0 own p l e R s m args below meth c F h cells slots (mkF m pc' ls (v :: st))) : Go W EL Z a0 own p l e R s m args below meth c F h cells slots (mkF m pc ls (.int j :: .ref a :: st)) := by
  subst hp hv hji
  intro T P
  obtain ⟨t, o, h1, h2⟩ := k T P
  obtain ⟨vm0, k0, locs, hWf, X, eT, hx, hZ, hown, hS, hk, hEL, hC, hN, hO⟩ := P
  obtain ⟨cl, Ar, q1, S1, N1, H1, G1⟩ := A
  have hin := inb_of S1 ⟨hj0, hjz⟩
  exact ⟨t, o, X.baloadBytes hx (by rw [eT]; exact Ar.1) (State.isArrayOf_alike hZ.alike Ar.2.1) Ar.2.2 hin (H1.at hin rfl) (g := mkF m pc ls (.int j :: .ref a :: st)) rfl rfl hd _ h1, h2⟩
theorem go_aaload {a : Addr} {kA : ClassId} {z j : Int32} {vs : List Value} {dv v : Value} {i : Nat} {ty : FieldType} (A : Arv Z h a kA ty z vs dv) (hty : ty.isReference = true) (hj0 : ¬ j < 0) (hjz : j < z) (hji : j.toNatClampNeg = i) (hv : vs.getD i dv = v) (hd : decode c.code pc = .ok (.aaload, 1)) (hp : pc + 1 = pc')
    (k : Go W EL Z a0 own p l e R s m args below meth c F h cells slots (mkF m pc' ls (v :: st))) : Go W EL Z a0 own p l e R s m args below meth c F h cells slots (mkF m pc ls (.int j :: .ref a :: st)) := by
  subst hp hv hji
  intro T P
  obtain ⟨t, o, h1, h2⟩ := k T P
  obtain ⟨vm0, k0, locs, hWf, X, eT, hx, hZ, hown, hS, hk, hEL, hC, hN, hO⟩ := P
  obtain ⟨cl, Ar, q1, S1, N1, H1, G1⟩ := A
  have hin := inb_of S1 ⟨hj0, hjz⟩
  exact ⟨t, o, X.aaload hx (by rw [eT]; exact Ar.1) (State.isArrayOf_alike hZ.alike Ar.2.1) hty Ar.2.2 hin (H1.at hin rfl) (g := mkF m pc ls (.int j :: .ref a :: st)) rfl rfl hd _ h1, h2⟩
theorem go_arraylength {a : Addr} {kA : ClassId} {z : Int32} {vs : List Value} {dv : Value} {ty : FieldType} (A : Arv Z h a kA ty z vs dv) (hd : decode c.code pc = .ok (.arraylength, 1)) (hp : pc + 1 = pc')
    (k : Go W EL Z a0 own p l e R s m args below meth c F h cells slots (mkF m pc' ls (.int z :: st))) : Go W EL Z a0 own p l e R s m args below meth c F h cells slots (mkF m pc ls (.ref a :: st)) := by
  subst hp
  intro T P
  obtain ⟨t, o, h1, h2⟩ := k T P
  obtain ⟨vm0, k0, locs, hWf, X, eT, hx, hZ, hown, hS, hk, hEL, hC, hN, hO⟩ := P
  obtain ⟨cl, Ar, q1, S1, N1, H1, G1⟩ := A
  refine ⟨t, o, X.arraylength hx (by rw [eT]; exact Ar.1) (State.isArrayOf_alike hZ.alike Ar.2.1) (g := mkF m pc ls (.ref a :: st)) rfl rfl hd _ ?_, h2⟩
  rw [len_of S1 N1]
  exact h1
theorem go_cast {a : Addr} {K : String} {index : Nat} (w : (Jvm.Cond.classLink own index K).before a0 Z = true) (I : Ins Z h a K true) (hd : decode c.code pc = .ok (.checkcast index, 3)) (hp : pc + 3 = pc') (k : Go W EL Z a0 own p l e R s m args below meth c F h cells slots (mkF m pc' ls (.ref a :: st))) : Go W EL Z a0 own p l e R s m args below meth c F h cells slots (mkF m pc ls (.ref a :: st)) := by
  subst hp
  intro T P
  obtain ⟨vm0, k0, locs, hWf, X, eT, hx, hZ, hown, hS, hk, hEL, hC, hN, hO⟩ := P
  obtain ⟨T', X', e', st'⟩ := castY X hx hZ hown w eT I (g := mkF m pc ls (.ref a :: st)) rfl rfl hd
  obtain ⟨t, o, h1, h2⟩ := k T' ⟨vm0, k0, locs, hWf, X', e', hx, hZ, hown, hS, hk, hEL, hC, hN, hO⟩
  exact ⟨t, o, st' _ h1, h2⟩
theorem go_instY {a : Addr} {K : String} {index : Nat} (w : (Jvm.Cond.classLink own index K).before a0 Z = true) (I : Ins Z h a K true) (hd : decode c.code pc = .ok (.instanceof index, 3)) (hp : pc + 3 = pc') (k : Go W EL Z a0 own p l e R s m args below meth c F h cells slots (mkF m pc' ls (.int 1 :: st))) : Go W EL Z a0 own p l e R s m args below meth c F h cells slots (mkF m pc ls (.ref a :: st)) := by
  subst hp
  intro T P
  obtain ⟨vm0, k0, locs, hWf, X, eT, hx, hZ, hown, hS, hk, hEL, hC, hN, hO⟩ := P
  obtain ⟨T', X', e', st'⟩ := instY X hx hZ hown w eT I (g := mkF m pc ls (.ref a :: st)) rfl rfl hd
  obtain ⟨t, o, h1, h2⟩ := k T' ⟨vm0, k0, locs, hWf, X', e', hx, hZ, hown, hS, hk, hEL, hC, hN, hO⟩
  exact ⟨t, o, st' _ h1, h2⟩
theorem go_instNo {a : Addr} {K C : String} {index : Nat} (w : (Jvm.Cond.classLink own index K).before a0 Z = true) (E : Exa Z h a C) (N0 : ∃ c t, Z.vm.findClass C = some c ∧ Z.vm.findClass K = some t ∧ Z.vm.assignable c t = false) (hd : decode c.code pc = .ok (.instanceof index, 3)) (hp : pc + 3 = pc') (k : Go W EL Z a0 own p l e R s m args below meth c F h cells slots (mkF m pc' ls (.int 0 :: st))) : Go W EL Z a0 own p l e R s m args below meth c F h cells slots (mkF m pc ls (.ref a :: st)) := by
  subst hp
  intro T P
  obtain ⟨vm0, k0, locs, hWf, X, eT, hx, hZ, hown, hS, hk, hEL, hC, hN, hO⟩ := P
  obtain ⟨T', X', e', st'⟩ := instNo X hx hZ hown w eT E N0 (g := mkF m pc ls (.ref a :: st)) rfl rfl hd
  obtain ⟨t, o, h1, h2⟩ := k T' ⟨vm0, k0, locs, hWf, X', e', hx, hZ, hown, hS, hk, hEL, hC, hN, hO⟩
  exact ⟨t, o, st' _ h1, h2⟩
theorem go_instNull {index : Nat} (hd : decode c.code pc = .ok (.instanceof index, 3)) (hp : pc + 3 = pc') (k : Go W EL Z a0 own p l e R s m args below meth c F h cells slots (mkF m pc' ls (.int 0 :: st))) : Go W EL Z a0 own p l e R s m args below meth c F h cells slots (mkF m pc ls (.null :: st)) := by
  subst hp
  intro T P
  obtain ⟨t, o, h1, h2⟩ := k T P
  obtain ⟨vm0, k0, locs, hWf, X, eT, hx, hZ, hown, hS, hk, hEL, hC, hN, hO⟩ := P
  exact ⟨t, o, X.instanceofNull hx (g := mkF m pc ls (.null :: st)) rfl rfl hd _ h1, h2⟩
theorem go_ldcI {v : Int32} {index : Nat} (w : (Jvm.Cond.constant own index v).before a0 Z = true) (hd : decode c.code pc = .ok (.ldc index, 2)) (hp : pc + 2 = pc') (k : Go W EL Z a0 own p l e R s m args below meth c F h cells slots (mkF m pc' ls (.int v :: st))) : Go W EL Z a0 own p l e R s m args below meth c F h cells slots (mkF m pc ls st) := by
  subst hp
  intro T P
  obtain ⟨t, o, h1, h2⟩ := k T P
  obtain ⟨vm0, k0, locs, hWf, X, eT, hx, hZ, hown, hS, hk, hEL, hC, hN, hO⟩ := P
  exact ⟨t, o, X.ldcInt hx hown (mvT hZ w) (g := mkF m pc ls st) rfl hd _ h1, h2⟩
theorem go_ldcJ {v : Int64} {index : Nat} (w : (Jvm.Cond.constantLong own index v).before a0 Z = true) (hd : decode c.code pc = .ok (.ldc2_w index, 3)) (hp : pc + 3 = pc') (k : Go W EL Z a0 own p l e R s m args below meth c F h cells slots (mkF m pc' ls (.long v :: st))) : Go W EL Z a0 own p l e R s m args below meth c F h cells slots (mkF m pc ls st) := by
  subst hp
  intro T P
  obtain ⟨t, o, h1, h2⟩ := k T P
  obtain ⟨vm0, k0, locs, hWf, X, eT, hx, hZ, hown, hS, hk, hEL, hC, hN, hO⟩ := P
  exact ⟨t, o, X.ldc2Long hx hown (mvT hZ w) (g := mkF m pc ls st) rfl hd _ h1, h2⟩
theorem go_ldcS {text : String} {index n : Nat} (hWt : W = true) (w : (Jvm.Cond.stringLink own index text).before a0 Z = true) (wS : ∀ a ∈ Bundle.stringAtoms, a.before a0 Z = true) (hn : 4 * text.toList.length ≤ n) (hbig : n ≤ 536870912) (hd : decode c.code pc = .ok (.ldc index, 2)) (hp : pc + 2 = pc') (hcl : cells + 2 = cells') (hsl : slots + (n + 4) = slots') (hc : cells' ≤ R.cells) (hl : slots' ≤ R.slots)
    (k : ∀ (h' : Heap) (a : Addr), Ext h h' → Go W EL Z a0 own p l e R s m args below meth c F h' cells' slots' (mkF m pc' ls (.ref a :: st))) : Go W EL Z a0 own p l e R s m args below meth c F h cells slots (mkF m pc ls st) := by
  subst hp hcl hsl hWt
  intro T P
  obtain ⟨vm0, k0, locs, hWf, X, eT, hx, hZ, hown, hS, hk, hEL, hC, hN, hO⟩ := P
  obtain ⟨a, T', h', k1, X', e', E', hS', hk', hZ', hown', hC', -, st'⟩ := ldcOH X hx hZ hown w wS eT hS hk hEL hC.1 (g := mkF m pc ls st) rfl hd hn hbig hc hl
  obtain ⟨t, o, h1, h2⟩ := k h' a E' T' ⟨T'.vm, k1, _, (fun q => nomatch q), X', e', hx, hZ', hown', hS', hk', hEL, hC.trans hC', hN, hO.ext E'⟩
  exact ⟨t, o, st' _ h1, h2⟩
theorem go_ldcH {text : String} {index n : Nat} {vs : List Value} {z : Int32} (hWt : W = true) (hmem : (own, index) ∈ EL) (w : (Jvm.Cond.stringLink own index text).before a0 Z = true) (wS : ∀ a ∈ Bundle.stringAtoms, a.before a0 Z = true) (ht : (∀ c ∈ text.toList, c.toNat < 256) ∧ text.toList.map (fun c => Value.int (Jvm.Lit.byteI c.toNat.toUInt16)) = vs) (hz : ¬ z < 0) (hlz : z.toNatClampNeg = vs.length) (hn : 4 * text.toList.length ≤ n) (hbig : n ≤ 536870912) (hd : decode c.code pc = .ok (.ldc index, 2)) (hp : pc + 2 = pc') (hcl : cells + 2 = cells') (hsl : slots + (n + 4) = slots') (hc : cells' ≤ R.cells) (hl : slots' ≤ R.slots)
    (k : ∀ (h' : Heap) (a b : Addr) (kb : ClassId), Ext h h' → Exa Z h' a "java/lang/String" → Fld Z h' a "java/lang/String" "coder" "B" (.int 0) → Fld Z h' a "java/lang/String" "value" "[B" (.ref b) → Arv Z h' b kb .byte z vs (.int 0) → Go W EL Z a0 own p l e R s m args below meth c F h' cells' slots' (mkF m pc' ls (.ref a :: st))) : Go W EL Z a0 own p l e R s m args below meth c F h cells slots (mkF m pc ls st) := by
  subst hp hcl hsl hWt
  intro T P
  obtain ⟨vm0, k0, locs, hWf, X, eT, hx, hZ, hown, hS, hk, hEL, hC, hN, hO⟩ := P
  obtain ⟨a, T', h', k1, b, kb, X', e', E', hS', hk', hZ', hown', q1, q2, q3, q4, -, -, hC', -, -, st'⟩ := ldcCH X hx hZ hown w wS eT hS hk hEL hmem hC.1 ht hz hlz (g := mkF m pc ls st) rfl hd hn hbig hc hl
  obtain ⟨t, o, h1, h2⟩ := k h' a b kb E' q1 q2 q3 q4 T' ⟨T'.vm, k1, _, (fun q => nomatch q), X', e', hx, hZ', hown', hS', hk', hEL, hC.trans hC', hN, hO.ext E'⟩
  exact ⟨t, o, st' _ h1, h2⟩
theorem go_initO {a : Addr} {idx Wd : Nat} (w1 : (Jvm.Cond.methodLink own idx Lib.objectInit).before a0 Z = true) (w2 : (Jvm.Cond.instanceMethod Lib.objectInit).before a0 Z = true) (w3 : (Jvm.Cond.code Lib.objectInit ⟨#[0xb1]⟩ 1 none).before a0 Z = true) (hsize : ls.size = c.maxLocals) (hW : 2 * 0 + (st.map fun v => v.category).sum ≤ Wd) (hf : 1 ≤ R.frames) (hl : Wd + 12 ≤ R.locals) (hd : decode c.code pc = .ok (.invokespecial idx, 3)) (hp : pc + 3 = pc') (k : Go W EL Z a0 own p l e R s m args below meth c F h cells slots (mkF m pc' ls st)) : Go W EL Z a0 own p l e R s m args below meth c F h cells slots (mkF m pc ls (.ref a :: st)) := by
  subst hp
  intro T P
  obtain ⟨vm0, k0, locs, hWf, X, eT, hx, hZ, hown, hS, hk, hEL, hC, hN, hO⟩ := P
  obtain ⟨T', X', e', st'⟩ := initO X hx hZ hown w1 w2 w3 eT (g := mkF m pc ls (.ref a :: st)) rfl hsize rfl hd hf (W := Wd) hW hl
  obtain ⟨t, o, h1, h2⟩ := k T' ⟨vm0, k0, locs, hWf, X', e', hx, hZ, hown, hS, hk, hEL, hC, hN, hO⟩
  exact ⟨t, o, st' _ h1, h2⟩
-- calls: what a payment gives back as a point of the caller's walk
theorem pt_back {vm0 vm₁ : Vm} {k0 : Nat} {locs L : List Loc} {T : State} {B : Pt} {ws : List Addr} {dc ds : Nat} (hWf : W = false → vm0 = s.vm) (eT : T.heap = h) (hx : p.tables.exec = Jvm.exec) (hZ : Z.Warmed39 vm0) (hown : vm0.findClass own = some m.cls) (hS : s.Since vm0 k0) (hk : k0 ≤ h.size) (hEL : EW Z a0 EL) (hC : CHr Z EL s.vm s.heap vm0 h) (hN : Fr Z.heap.size locs) (hO : Old Z Z.heap.size h)
    (X : Stand p l e R (s.setVm vm0) m args below meth c B.U B.locs B.cells B.slots) (hL : Fr Z.heap.size L) (K : Keep h B.U.heap ws) (b1 : B.locs = locs ++ L) (b2 : B.cells = cells + dc) (b3 : B.slots = slots + ds) (hws : ∀ x ∈ ws, Z.heap.size ≤ x) (hsf : ∀ vm, Z.vm.Alike vm → ∀ x ∈ ws, Safe Z EL vm h x) (hcl : cells + dc = cells') (hsl : slots + ds = slots') :
    PT W EL Z a0 own p l e R s m args below meth c B.U B.U.heap cells' slots' := by
  subst hcl hsl
  rw [b1, b2, b3] at X
  exact ⟨vm0, k0, _, hWf, X, rfl, hx, hZ, hown, hS, Nat.le_trans hk K.1, hEL, hC.trans (CHr.keep K (hsf _ hZ.alike) hC.1), hN.app hL, hO.keep K hws⟩
theorem pt_backS {vm0 : Vm} {k0 : Nat} {locs L : List Loc} {B : Pt} {ws : List Addr} {dc ds : Nat} (hWt : W = true) (hx : p.tables.exec = Jvm.exec) (hZ : Z.Warmed39 vm0) (hown : vm0.findClass own = some m.cls) (hS : s.Since vm0 k0) (hk : k0 ≤ h.size) (hEL : EW Z a0 EL) (hC : CHr Z EL s.vm s.heap vm0 h) (hN : Fr Z.heap.size locs) (hO : Old Z Z.heap.size h)
    (X : Stand p l e R (s.setVm B.U.vm) m args below meth c B.U B.locs B.cells B.slots) (S2 : (s.setVm vm0).Since B.U.vm B.U.heap.size) (hL : Fr Z.heap.size L) (K : Keep h B.U.heap ws) (b1 : B.locs = locs ++ L) (b2 : B.cells = cells + dc) (b3 : B.slots = slots + ds) (b4 : CHr Z EL vm0 h B.U.vm B.U.heap) (hws : ∀ x ∈ ws, Z.heap.size ≤ x) (hcl : cells + dc = cells') (hsl : slots + ds = slots') :
    PT W EL Z a0 own p l e R s m args below meth c B.U B.U.heap cells' slots' := by
  subst hcl hsl hWt
  rw [b1, b2, b3] at X
  have hZ' : Z.Warmed39 B.U.vm := State.Warmed39.trans (t := s.setVm vm0) (s := Z) hZ S2.1
  have hown' : B.U.vm.findClass own = some m.cls := by
    rw [S2.1.alike.findClass]
    exact hown
  exact ⟨B.U.vm, B.U.heap.size, _, (fun q => nomatch q), X, rfl, hx, hZ', hown', hS.trans S2 (Nat.le_trans hk K.1), Nat.le_refl _, hEL, hC.trans b4, hN.app hL, hO.keep K hws⟩
theorem callS0 {index Wd dc ds : Nat} {y : MethodName} {bytes : ByteArray} {maxL : Nat} {ret : Option FieldType} {argsL rest : List Value} {ws : List Addr} {Q : Option Value → Heap → Prop} {ps : List FieldType} {r : Option FieldType}
    (hK : Pay l R p e below Z y Wd argsL.toArray h dc ds ws Q) (w1 : (Jvm.Cond.methodLink own index y).before a0 Z = true) (w2 : (Jvm.Cond.static y).before a0 Z = true) (w3 : (Jvm.Cond.initialized y.cls).before a0 Z = true) (w4 : (Jvm.Cond.code y bytes maxL ret).before a0 Z = true) (hy : y.cls ≠ "java/lang/invoke/MethodHandle" ∧ y.cls ≠ "java/lang/invoke/VarHandle")
    (hpd : parseMethodDescriptor y.desc = some ⟨ps, r⟩) (hln : argsL.length = ps.length) (hst : st = argsL.reverse ++ rest) (hsize : ls.size = c.maxLocals) (hW : 2 * 0 + (rest.map fun v => v.category).sum ≤ Wd) (hcl : cells + dc = cells') (hsl : slots + ds = slots') (hc : cells' ≤ R.cells) (hs : slots' ≤ R.slots) (hws : ∀ x ∈ ws, Z.heap.size ≤ x) (hsf : ∀ vm, Z.vm.Alike vm → ∀ x ∈ ws, Safe Z EL vm h x)
    (hd : decode c.code pc = .ok (.invokestatic index, 3)) (k : ∀ (v : Option Value) (h' : Heap), Q v h' → Keep h h' ws → Go W EL Z a0 own p l e R s m args below meth c F h' cells' slots' (mkF m (pc + 3) ls (v.toList ++ rest))) : Go W EL Z a0 own p l e R s m args below meth c F h cells slots (mkF m pc ls st) := by
  intro T P
  obtain ⟨vm0, k0, locs, hWf, X, eT, hx, hZ, hown, hS, hk, hEL, hC, hN, hO⟩ := P
  obtain ⟨v, vm₁, B, -, X', ⟨L, ⟨q1, q2, q3⟩, b1, b2, b3⟩, st'⟩ := Jvm.LawKit.callS X hx hown (mvT hZ w1) (mvT hZ w2) (mvT hZ w3) (mvT hZ w4) hy (hK _ _ hZ) (g := mkF m pc ls st) rfl hsize (lenOf hpd hln) hst hW hd (fun _ _ => ⟨rfl, eT, by rw [hcl]; exact hc, by rw [hsl]; exact hs⟩)
  obtain ⟨t, o, h1, h2⟩ := k v _ q1 q3 B.U (pt_back (vm₁ := vm₁) hWf eT hx hZ hown hS hk hEL hC hN hO X' q2 q3 b1 b2 b3 hws hsf hcl hsl)
  exact ⟨t, o, st' _ h1, h2⟩
theorem callSW0 {index Wd dc ds : Nat} {y : MethodName} {bytes : ByteArray} {maxL : Nat} {ret : Option FieldType} {argsL rest : List Value} {ws : List Addr} {Q : Option Value → Heap → Prop} {ps : List FieldType} {r : Option FieldType} (hWt : W = true)
    (hK : PayW EL l R p e below Z y Wd argsL.toArray h dc ds ws Q) (w1 : (Jvm.Cond.methodLink own index y).before a0 Z = true) (w2 : (Jvm.Cond.static y).before a0 Z = true) (w3 : (Jvm.Cond.initialized y.cls).before a0 Z = true) (w4 : (Jvm.Cond.code y bytes maxL ret).before a0 Z = true) (hy : y.cls ≠ "java/lang/invoke/MethodHandle" ∧ y.cls ≠ "java/lang/invoke/VarHandle")
    (hpd : parseMethodDescriptor y.desc = some ⟨ps, r⟩) (hln : argsL.length = ps.length) (hst : st = argsL.reverse ++ rest) (hsize : ls.size = c.maxLocals) (hW : 2 * 0 + (rest.map fun v => v.category).sum ≤ Wd) (hcl : cells + dc = cells') (hsl : slots + ds = slots') (hc : cells' ≤ R.cells) (hs : slots' ≤ R.slots) (hws : ∀ x ∈ ws, Z.heap.size ≤ x)
    (hd : decode c.code pc = .ok (.invokestatic index, 3)) (k : ∀ (v : Option Value) (h' : Heap), Q v h' → Keep h h' ws → Go W EL Z a0 own p l e R s m args below meth c F h' cells' slots' (mkF m (pc + 3) ls (v.toList ++ rest))) : Go W EL Z a0 own p l e R s m args below meth c F h cells slots (mkF m pc ls st) := by
  intro T P
  obtain ⟨vm0, k0, locs, hWf, X, eT, hx, hZ, hown, hS, hk, hEL, hC, hN, hO⟩ := P
  obtain ⟨v, vm₁, B, -, X', S2, -, ⟨L, ⟨q1, q2, q3⟩, b1, b2, b3, b4⟩, st'⟩ := callSS X hx hown (mvT hZ w1) (mvT hZ w2) (mvT hZ w3) (mvT hZ w4) hy (hK s vm0 _ hZ hC.1) (g := mkF m pc ls st) rfl hsize (lenOf hpd hln) hst hW hd (fun _ _ => ⟨rfl, eT, by rw [hcl]; exact hc, by rw [hsl]; exact hs⟩)
  obtain ⟨t, o, h1, h2⟩ := k v _ q1 q3 B.U (pt_backS hWt hx hZ hown hS hk hEL hC hN hO X' S2 q2 q3 b1 b2 b3 b4 hws hcl hsl)
  exact ⟨t, o, st'.trans h1, h2⟩
theorem callI0 {index Wd dc ds : Nat} {y : MethodName} {bytes : ByteArray} {maxL : Nat} {a : Addr} {argsL rest : List Value} {ws : List Addr} {Q : Option Value → Heap → Prop} {ps : List FieldType} {r : Option FieldType}
    (hK : Pay l R p e below Z y Wd (.ref a :: argsL).toArray h dc ds ws Q) (hy1 : y.name = "<init>") (w1 : (Jvm.Cond.methodLink own index y).before a0 Z = true) (w2 : (Jvm.Cond.instanceMethod y).before a0 Z = true) (w4 : (Jvm.Cond.code y bytes maxL none).before a0 Z = true) (hy : y.cls ≠ "java/lang/invoke/MethodHandle" ∧ y.cls ≠ "java/lang/invoke/VarHandle")
    (hpd : parseMethodDescriptor y.desc = some ⟨ps, r⟩) (hln : argsL.length = ps.length) (hst : st = argsL.reverse ++ .ref a :: rest) (hsize : ls.size = c.maxLocals) (hW : 2 * 0 + (rest.map fun v => v.category).sum ≤ Wd) (hcl : cells + dc = cells') (hsl : slots + ds = slots') (hc : cells' ≤ R.cells) (hs : slots' ≤ R.slots) (hws : ∀ x ∈ ws, Z.heap.size ≤ x) (hsf : ∀ vm, Z.vm.Alike vm → ∀ x ∈ ws, Safe Z EL vm h x)
    (hd : decode c.code pc = .ok (.invokespecial index, 3)) (k : ∀ (v : Option Value) (h' : Heap), Q v h' → Keep h h' ws → Go W EL Z a0 own p l e R s m args below meth c F h' cells' slots' (mkF m (pc + 3) ls (v.toList ++ rest))) : Go W EL Z a0 own p l e R s m args below meth c F h cells slots (mkF m pc ls st) := by
  intro T P
  obtain ⟨vm0, k0, locs, hWf, X, eT, hx, hZ, hown, hS, hk, hEL, hC, hN, hO⟩ := P
  obtain ⟨v, vm₁, B, -, X', ⟨L, ⟨q1, q2, q3⟩, b1, b2, b3⟩, st'⟩ := X.specialBack hx hy1 hown (mvT hZ w1) (mvT hZ w2) (mvT hZ w4) hy (hK _ _ hZ) (g := mkF m pc ls st) rfl hsize (Steps.refl _) (lenOf hpd hln) hst hW hd (fun _ _ => ⟨rfl, eT, by rw [hcl]; exact hc, by rw [hsl]; exact hs⟩)
  obtain ⟨t, o, h1, h2⟩ := k v _ q1 q3 B.U (pt_back (vm₁ := vm₁) hWf eT hx hZ hown hS hk hEL hC hN hO X' q2 q3 b1 b2 b3 hws hsf hcl hsl)
  exact ⟨t, o, st'.trans h1, h2⟩
theorem callIW0 {index Wd dc ds : Nat} {y : MethodName} {bytes : ByteArray} {maxL : Nat} {a : Addr} {argsL rest : List Value} {ws : List Addr} {Q : Option Value → Heap → Prop} {ps : List FieldType} {r : Option FieldType} (hWt : W = true)
    (hK : PayW EL l R p e below Z y Wd (.ref a :: argsL).toArray h dc ds ws Q) (hy1 : y.name = "<init>") (w1 : (Jvm.Cond.methodLink own index y).before a0 Z = true) (w2 : (Jvm.Cond.instanceMethod y).before a0 Z = true) (w4 : (Jvm.Cond.code y bytes maxL none).before a0 Z = true) (hy : y.cls ≠ "java/lang/invoke/MethodHandle" ∧ y.cls ≠ "java/lang/invoke/VarHandle")
    (hpd : parseMethodDescriptor y.desc = some ⟨ps, r⟩) (hln : argsL.length = ps.length) (hst : st = argsL.reverse ++ .ref a :: rest) (hsize : ls.size = c.maxLocals) (hW : 2 * 0 + (rest.map fun v => v.category).sum ≤ Wd) (hcl : cells + dc = cells') (hsl : slots + ds = slots') (hc : cells' ≤ R.cells) (hs : slots' ≤ R.slots) (hws : ∀ x ∈ ws, Z.heap.size ≤ x)
    (hd : decode c.code pc = .ok (.invokespecial index, 3)) (k : ∀ (v : Option Value) (h' : Heap), Q v h' → Keep h h' ws → Go W EL Z a0 own p l e R s m args below meth c F h' cells' slots' (mkF m (pc + 3) ls (v.toList ++ rest))) : Go W EL Z a0 own p l e R s m args below meth c F h cells slots (mkF m pc ls st) := by
  intro T P
  obtain ⟨vm0, k0, locs, hWf, X, eT, hx, hZ, hown, hS, hk, hEL, hC, hN, hO⟩ := P
  obtain ⟨v, vm₁, B, -, X', S2, -, ⟨L, ⟨q1, q2, q3⟩, b1, b2, b3, b4⟩, st'⟩ := X.specialBackS hx hy1 hown (mvT hZ w1) (mvT hZ w2) (mvT hZ w4) hy (hK s vm0 _ hZ hC.1) (g := mkF m pc ls st) rfl hsize (Steps.refl _) (lenOf hpd hln) hst hW hd (fun _ _ => ⟨rfl, eT, by rw [hcl]; exact hc, by rw [hsl]; exact hs⟩)
  obtain ⟨t, o, h1, h2⟩ := k v _ q1 q3 B.U (pt_backS hWt hx hZ hown hS hk hEL hC hN hO X' S2 q2 q3 b1 b2 b3 b4 hws hcl hsl)
  exact ⟨t, o, st'.trans h1, h2⟩
theorem callV0 {index Wd dc ds : Nat} {y z : MethodName} {C C' : String} {a : Addr} {argsL rest : List Value} {ws : List Addr} {Q : Option Value → Heap → Prop} {ps : List FieldType} {r : Option FieldType}
    (hK : Pay l R p e below Z z Wd (.ref a :: argsL).toArray h dc ds ws Q) (E : Exa Z h a C) (w1 : (Jvm.Cond.methodLink own index y).before a0 Z = true) (w2 : (Jvm.Cond.declares y).before a0 Z = true) (w3 : (Jvm.Cond.selects C' y y).before a0 Z = true) (w5 : (Jvm.Cond.selects C y z).before a0 Z = true) (w4 : (Jvm.Cond.instanceMethod z).before a0 Z = true) (hy : y.cls ≠ "java/lang/invoke/MethodHandle" ∧ y.cls ≠ "java/lang/invoke/VarHandle")
    (hpd : parseMethodDescriptor y.desc = some ⟨ps, r⟩) (hln : argsL.length = ps.length) (hst : st = argsL.reverse ++ .ref a :: rest) (hsize : ls.size = c.maxLocals) (hW : 2 * 0 + (rest.map fun v => v.category).sum ≤ Wd) (hcl : cells + dc = cells') (hsl : slots + ds = slots') (hc : cells' ≤ R.cells) (hs : slots' ≤ R.slots) (hws : ∀ x ∈ ws, Z.heap.size ≤ x) (hsf : ∀ vm, Z.vm.Alike vm → ∀ x ∈ ws, Safe Z EL vm h x)
    (hd : decode c.code pc = .ok (.invokevirtual index, 3)) (k : ∀ (v : Option Value) (h' : Heap), Q v h' → Keep h h' ws → Go W EL Z a0 own p l e R s m args below meth c F h' cells' slots' (mkF m (pc + 3) ls (v.toList ++ rest))) : Go W EL Z a0 own p l e R s m args below meth c F h cells slots (mkF m pc ls st) := by
  intro T P
  obtain ⟨vm0, k0, locs, hWf, X, eT, hx, hZ, hown, hS, hk, hEL, hC, hN, hO⟩ := P
  obtain ⟨cB, kB, i1, i2, i3⟩ := isOf (T := T) (s := s.setVm vm0) hZ eT E
  obtain ⟨v, vm₁, B, -, X', ⟨L, ⟨q1, q2, q3⟩, b1, b2, b3⟩, st'⟩ := X.virtualBack hx (y := y) (z := z) hown (mvT hZ w1) (mvT hZ w2) (notFace_of_selects (args := #[]) (mvT hZ w3)) (mvT hZ w5) (mvT hZ w4) hy (hK _ _ hZ) i1 i3 (g := mkF m pc ls st) rfl hsize (Steps.refl _) (lenOf hpd hln) hst hW hd (fun _ _ => ⟨rfl, eT, by rw [hcl]; exact hc, by rw [hsl]; exact hs⟩)
  obtain ⟨t, o, h1, h2⟩ := k v _ q1 q3 B.U (pt_back (vm₁ := vm₁) hWf eT hx hZ hown hS hk hEL hC hN hO X' q2 q3 b1 b2 b3 hws hsf hcl hsl)
  exact ⟨t, o, st'.trans h1, h2⟩
theorem callVW0 {index Wd dc ds : Nat} {y z : MethodName} {C C' : String} {a : Addr} {argsL rest : List Value} {ws : List Addr} {Q : Option Value → Heap → Prop} {ps : List FieldType} {r : Option FieldType} (hWt : W = true)
    (hK : PayW EL l R p e below Z z Wd (.ref a :: argsL).toArray h dc ds ws Q) (E : Exa Z h a C) (w1 : (Jvm.Cond.methodLink own index y).before a0 Z = true) (w2 : (Jvm.Cond.declares y).before a0 Z = true) (w3 : (Jvm.Cond.selects C' y y).before a0 Z = true) (w5 : (Jvm.Cond.selects C y z).before a0 Z = true) (w4 : (Jvm.Cond.instanceMethod z).before a0 Z = true) (hy : y.cls ≠ "java/lang/invoke/MethodHandle" ∧ y.cls ≠ "java/lang/invoke/VarHandle")
    (hpd : parseMethodDescriptor y.desc = some ⟨ps, r⟩) (hln : argsL.length = ps.length) (hst : st = argsL.reverse ++ .ref a :: rest) (hsize : ls.size = c.maxLocals) (hW : 2 * 0 + (rest.map fun v => v.category).sum ≤ Wd) (hcl : cells + dc = cells') (hsl : slots + ds = slots') (hc : cells' ≤ R.cells) (hs : slots' ≤ R.slots) (hws : ∀ x ∈ ws, Z.heap.size ≤ x)
    (hd : decode c.code pc = .ok (.invokevirtual index, 3)) (k : ∀ (v : Option Value) (h' : Heap), Q v h' → Keep h h' ws → Go W EL Z a0 own p l e R s m args below meth c F h' cells' slots' (mkF m (pc + 3) ls (v.toList ++ rest))) : Go W EL Z a0 own p l e R s m args below meth c F h cells slots (mkF m pc ls st) := by
  intro T P
  obtain ⟨vm0, k0, locs, hWf, X, eT, hx, hZ, hown, hS, hk, hEL, hC, hN, hO⟩ := P
  obtain ⟨cB, kB, i1, i2, i3⟩ := isOf (T := T) (s := s.setVm vm0) hZ eT E
  obtain ⟨v, vm₁, B, -, X', S2, -, ⟨L, ⟨q1, q2, q3⟩, b1, b2, b3, b4⟩, st'⟩ := X.virtualBackS hx (y := y) (z := z) hown (mvT hZ w1) (mvT hZ w2) (notFace_of_selects (args := #[]) (mvT hZ w3)) (mvT hZ w5) (mvT hZ w4) hy (hK s vm0 _ hZ hC.1) i1 i3 (g := mkF m pc ls st) rfl hsize (Steps.refl _) (lenOf hpd hln) hst hW hd (fun _ _ => ⟨rfl, eT, by rw [hcl]; exact hc, by rw [hsl]; exact hs⟩)
  obtain ⟨t, o, h1, h2⟩ := k v _ q1 q3 B.U (pt_backS hWt hx hZ hown hS hk hEL hC hN hO X' S2 q2 q3 b1 b2 b3 b4 hws hcl hsl)
  exact ⟨t, o, st'.trans h1, h2⟩
theorem callP0 {index Wd dc ds : Nat} {y : MethodName} {bytes : ByteArray} {maxL : Nat} {ret : Option FieldType} {C : String} {a : Addr} {argsL rest : List Value} {ws : List Addr} {Q : Option Value → Heap → Prop} {ps : List FieldType} {r : Option FieldType}
    (hK : Pay l R p e below Z y Wd (.ref a :: argsL).toArray h dc ds ws Q) (E : Exa Z h a C) (w1 : (Jvm.Cond.methodLink own index y).before a0 Z = true) (w2 : (Jvm.Cond.instanceMethod y).before a0 Z = true) (w3 : (Jvm.Cond.selects y.cls y y).before a0 Z = true) (w5 : (Jvm.Cond.privateMethod y).before a0 Z = true) (w4 : (Jvm.Cond.code y bytes maxL ret).before a0 Z = true) (hy : y.cls ≠ "java/lang/invoke/MethodHandle" ∧ y.cls ≠ "java/lang/invoke/VarHandle")
    (hpd : parseMethodDescriptor y.desc = some ⟨ps, r⟩) (hln : argsL.length = ps.length) (hst : st = argsL.reverse ++ .ref a :: rest) (hsize : ls.size = c.maxLocals) (hW : 2 * 0 + (rest.map fun v => v.category).sum ≤ Wd) (hcl : cells + dc = cells') (hsl : slots + ds = slots') (hc : cells' ≤ R.cells) (hs : slots' ≤ R.slots) (hws : ∀ x ∈ ws, Z.heap.size ≤ x) (hsf : ∀ vm, Z.vm.Alike vm → ∀ x ∈ ws, Safe Z EL vm h x)
    (hd : decode c.code pc = .ok (.invokevirtual index, 3)) (k : ∀ (v : Option Value) (h' : Heap), Q v h' → Keep h h' ws → Go W EL Z a0 own p l e R s m args below meth c F h' cells' slots' (mkF m (pc + 3) ls (v.toList ++ rest))) : Go W EL Z a0 own p l e R s m args below meth c F h cells slots (mkF m pc ls st) := by
  intro T P
  obtain ⟨vm0, k0, locs, hWf, X, eT, hx, hZ, hown, hS, hk, hEL, hC, hN, hO⟩ := P
  obtain ⟨cl, i1, i2⟩ := E.cell
  obtain ⟨v, vm₁, B, -, X', ⟨L, ⟨q1, q2, q3⟩, b1, b2, b3⟩, st'⟩ := X.privateBack hx (y := y) hown (mvT hZ w1) (mvT hZ w2) (mvT hZ w3) (Cond.privateMethod_at (args := #[]) (mvP hZ w5)) (mvT hZ w4) hy (hK _ _ hZ) (g := mkF m pc ls st) rfl hsize (Steps.refl _) (by rw [eT]; exact i1) i2 (lenOf hpd hln) hst hW hd (fun _ _ => ⟨rfl, eT, by rw [hcl]; exact hc, by rw [hsl]; exact hs⟩)
  obtain ⟨t, o, h1, h2⟩ := k v _ q1 q3 B.U (pt_back (vm₁ := vm₁) hWf eT hx hZ hown hS hk hEL hC hN hO X' q2 q3 b1 b2 b3 hws hsf hcl hsl)
  exact ⟨t, o, st'.trans h1, h2⟩
theorem k_v {ws : List Addr} {QV : Value → Heap → Prop} {rest : List Value} (hp : pc + 3 = pc') (k : ∀ (x : Value) (h' : Heap), QV x h' → Keep h h' ws → Go W EL Z a0 own p l e R s m args below meth c F h' cells' slots' (mkF m pc' ls (x :: rest))) : ∀ (v : Option Value) (h' : Heap), rvl QV v h' → Keep h h' ws → Go W EL Z a0 own p l e R s m args below meth c F h' cells' slots' (mkF m (pc + 3) ls (v.toList ++ rest)) := by
  subst hp
  rintro _ h' ⟨x, rfl, q⟩ K
  exact k x h' q K
theorem k_n {ws : List Addr} {QN : Heap → Prop} {rest : List Value} (hp : pc + 3 = pc') (k : ∀ (h' : Heap), QN h' → Keep h h' ws → Go W EL Z a0 own p l e R s m args below meth c F h' cells' slots' (mkF m pc' ls rest)) : ∀ (v : Option Value) (h' : Heap), rno QN v h' → Keep h h' ws → Go W EL Z a0 own p l e R s m args below meth c F h' cells' slots' (mkF m (pc + 3) ls (v.toList ++ rest)) := by
  subst hp
  rintro _ h' ⟨rfl, q⟩ K
  exact k h' q K
-- the end
theorem fin_of {vm0 : Vm} {k0 : Nat} {locs : List Loc} {T : State} {h0 : Heap} {ws : List Addr} {Q : Option Value → Heap → Prop} {dc ds : Nat} {v : Option Value} (hlk : meth.locks = false) (hWf : W = false → vm0 = s.vm) (X : Stand p l e R (s.setVm vm0) m args below meth c T locs cells slots) (eT : T.heap = h) (hZ : Z.Warmed39 vm0) (hS : s.Since vm0 k0) (hk : k0 ≤ h.size) (hEL : EW Z a0 EL) (hC : CHr Z EL s.vm s.heap vm0 h) (hN : Fr Z.heap.size locs) (hv : meth.sig.returnType = none → v = none) (hq : Q v h) (K : Keep h0 h ws) (hc : cells ≤ dc) (hs : slots ≤ ds) :
    ∃ fs, (∀ (f : JFrame) (acts : List Action), f.method = m → f.locked = none → f.entered = [] → (doReturn e (T.setTop f) acts v).1 = T.setFrames fs) ∧ (T.setFrames fs).status = .running ∧ Ended (T.setFrames fs) below (.returned v) ∧ Fend W EL Z s h0 ws Q dc ds (.returned v) (T.setFrames fs) := by
  cases W
  · obtain rfl := hWf rfl
    obtain ⟨fs, hr, hrun, hended, hW, hsame⟩ := X.leave (v := v) hv hlk
    exact ⟨fs, hr, hrun, hended, v, locs, rfl, ⟨by rw [show (T.setFrames fs).heap = h from eT]; exact hq, hN, by rw [show (T.setFrames fs).heap = h from eT]; exact K⟩, (fun q => nomatch q), fun _ => ⟨⟨v, rfl⟩, hW, hsame.mono hc hs⟩⟩
  · obtain ⟨fs, hr, hrun, hended, q1, q2, q3, q4⟩ := X.leaveW hS (by rw [eT]; exact hk) (v := v) hv hlk
    exact ⟨fs, hr, hrun, hended, v, locs, rfl, ⟨by rw [show (T.setFrames fs).heap = h from eT]; exact hq, hN, by rw [show (T.setFrames fs).heap = h from eT]; exact K⟩, fun _ => ⟨by rw [show (T.setFrames fs).heap = h from eT]; exact hC.trans (show CHr Z EL vm0 h T.vm h from CHv.at X hZ hEL hC.1), q1, q2, q3, q4.mono hc hs⟩, (fun q => nomatch q)⟩
theorem go_areturn {v : Value} {t : FieldType} {h0 : Heap} {ws : List Addr} {Q : Option Value → Heap → Prop} {dc ds : Nat} (hret : meth.sig.returnType = some t) (hlk : meth.locks = false) (ht : t.isReference = true) (hv : v.isRef = true) (hd : decode c.code pc = .ok (.areturn, 1)) (hc : cells ≤ dc) (hs : slots ≤ ds) (hq : Q (some v) h) (K : Keep h0 h ws) :
    Go W EL Z a0 own p l e R s m args below meth c (Fend W EL Z s h0 ws Q dc ds) h cells slots (mkF m pc ls [v]) := by
  intro T P
  obtain ⟨vm0, k0, locs, hWf, X, eT, hx, hZ, hown, hS, hk, hEL, hC, hN, hO⟩ := P
  obtain ⟨fs, hr, q1, q2, q3⟩ := fin_of hlk hWf X eT hZ hS hk hEL hC hN (v := some v) (fun q => by rw [hret] at q; cases q) hq K hc hs
  exact ⟨_, _, X.areturnOut hx hv hret ht hd hr, q1, q2, q3⟩
theorem go_return {h0 : Heap} {ws : List Addr} {Q : Option Value → Heap → Prop} {dc ds : Nat} (hret : meth.sig.returnType = none) (hlk : meth.locks = false) (hd : decode c.code pc = .ok (.return_, 1)) (hc : cells ≤ dc) (hs : slots ≤ ds) (hq : Q none h) (K : Keep h0 h ws) :
    Go W EL Z a0 own p l e R s m args below meth c (Fend W EL Z s h0 ws Q dc ds) h cells slots (mkF m pc ls []) := by
  intro T P
  obtain ⟨vm0, k0, locs, hWf, X, eT, hx, hZ, hown, hS, hk, hEL, hC, hN, hO⟩ := P
  obtain ⟨fs, hr, q1, q2, q3⟩ := fin_of hlk hWf X eT hZ hS hk hEL hC hN (v := none) (fun _ => rfl) hq K hc hs
  exact ⟨_, _, X.returnOut hx hret hd hr, q1, q2, q3⟩
theorem go_ireturn {x : Int32} {t : FieldType} {h0 : Heap} {ws : List Addr} {Q : Option Value → Heap → Prop} {dc ds : Nat} (hret : meth.sig.returnType = some t) (hlk : meth.locks = false) (hn : narrow t (.int x) = .int x) (hti : t = .int ∨ t = .boolean ∨ t = .byte ∨ t = .char ∨ t = .short) (hd : decode c.code pc = .ok (.ireturn, 1)) (hc : cells ≤ dc) (hs : slots ≤ ds) (hq : Q (some (.int x)) h) (K : Keep h0 h ws) :
    Go W EL Z a0 own p l e R s m args below meth c (Fend W EL Z s h0 ws Q dc ds) h cells slots (mkF m pc ls [.int x]) := by
  intro T P
  obtain ⟨vm0, k0, locs, hWf, X, eT, hx, hZ, hown, hS, hk, hEL, hC, hN, hO⟩ := P
  obtain ⟨fs, hr, q1, q2, q3⟩ := fin_of hlk hWf X eT hZ hS hk hEL hC hN (v := some (.int x)) (fun q => by rw [hret] at q; cases q) hq K hc hs
  exact ⟨_, _, X.ireturnOut hx hret hn hti hd hr, q1, q2, q3⟩
theorem go_lreturn {x : Int64} {h0 : Heap} {ws : List Addr} {Q : Option Value → Heap → Prop} {dc ds : Nat} (hret : meth.sig.returnType = some .long) (hlk : meth.locks = false) (hd : decode c.code pc = .ok (.lreturn, 1)) (hc : cells ≤ dc) (hs : slots ≤ ds) (hq : Q (some (.long x)) h) (K : Keep h0 h ws) :
    Go W EL Z a0 own p l e R s m args below meth c (Fend W EL Z s h0 ws Q dc ds) h cells slots (mkF m pc ls [.long x]) := by
  intro T P
  obtain ⟨vm0, k0, locs, hWf, X, eT, hx, hZ, hown, hS, hk, hEL, hC, hN, hO⟩ := P
  obtain ⟨fs, hr, q1, q2, q3⟩ := fin_of hlk hWf X eT hZ hS hk hEL hC hN (v := some (.long x)) (fun q => by rw [hret] at q; cases q) hq K hc hs
  exact ⟨_, _, X.lreturnOut hx hret hd hr, q1, q2, q3⟩
theorem nv_obj {v : Value} {C : String} (q : v.isRef = true) : narrow (.object C) v = v := by cases v <;> first | rfl | simp [Value.isRef] at q
theorem fv_obj {v : Value} {C : String} (q : v.isRef = true) : fits (.object C) v = true := by cases v <;> first | rfl | simp [Value.isRef] at q
theorem i2b_i2b (x : Int32) : (x.toInt8.toInt32).toInt8.toInt32 = x.toInt8.toInt32 := by simp
theorem go_cut {α : Type} {P : α → Prop} {gf : α → JFrame} {g0 : JFrame} (k : ∀ q, P q → Go W EL Z a0 own p l e R s m args below meth c F h cells slots (gf q)) (b : (∀ q, P q → Go W EL Z a0 own p l e R s m args below meth c F h cells slots (gf q)) → Go W EL Z a0 own p l e R s m args below meth c F h cells slots (g0)) : Go W EL Z a0 own p l e R s m args below meth c F h cells slots (g0) := b k
theorem go_getSN {v : Value} {O n d host : String} {index : Nat} (w : (Jvm.Cond.fieldLinkNest own index O n d host).before a0 Z = true) (F0 : Sta Z h O n d v) (hd : decode c.code pc = .ok (.getstatic index, 3)) (hp : pc + 3 = pc') (k : Go W EL Z a0 own p l e R s m args below meth c F h cells slots (mkF m pc' ls (v :: st))) : Go W EL Z a0 own p l e R s m args below meth c F h cells slots (mkF m pc ls st) := by
  subst hp
  intro T P
  obtain ⟨vm0, k0, locs, hWf, X, eT, hx, hZ, hown, hS, hk, hEL, hC, hN, hO⟩ := P
  obtain ⟨T', X', e', st'⟩ := getS2 X hx hZ hown (Or.inr w) Via.refl eT F0 (g := mkF m pc ls st) rfl hd
  obtain ⟨t, o, h1, h2⟩ := k T' ⟨vm0, k0, locs, hWf, X', e', hx, hZ, hown, hS, hk, hEL, hC, hN, hO⟩
  exact ⟨t, o, st' _ h1, h2⟩
theorem go_newR {C : String} {index : Nat} {n : Int32} {cap : Nat} {vs : List Value} (w1 : (Jvm.Cond.classLink own index C).before a0 Z = true) (w2 : (Jvm.Cond.arrayOver (.object C)).before a0 Z = true) (hd : decode c.code pc = .ok (.anewarray index, 3)) (hp : pc + 3 = pc') (hn : ¬ n < 0) (hcap : n.toNatClampNeg = cap) (hb : cap * 8 ≤ 536870912) (hvs : List.replicate cap Value.null = vs) (hcl : cells + 1 = cells') (hsl : slots + cap = slots') (hc : cells' ≤ R.cells) (hl : slots' ≤ R.slots)
    (k : ∀ (h' : Heap) (a : Addr) (kA : ClassId), h.size = a → Ext h h' → Arv Z h' a kA (.object C) n vs .null → Ovr Z kA C → Go W EL Z a0 own p l e R s m args below meth c F h' cells' slots' (mkF m pc' ls (.ref a :: st))) : Go W EL Z a0 own p l e R s m args below meth c F h cells slots (mkF m pc ls (.int n :: st)) := by
  subst hp hcl hsl hvs
  intro T P
  obtain ⟨vm0, k0, locs, hWf, X, eT, hx, hZ, hown, hS, hk, hEL, hC, hN, hO⟩ := P
  obtain ⟨T', h', kA, X', e', E', A', O', st'⟩ := newR X hx hZ hown w1 w2 eT (g := mkF m pc ls (.int n :: st)) rfl hd rfl hn (cap := cap) (Nat.le_of_eq hcap) hb hc hl
  have V : Arv Z h' h.size kA (.object C) n (List.replicate cap Value.null) .null := by
    have q : Arv Z h' h.size kA (.object C) n ([] ++ List.replicate cap Value.null) .null := (Arv.new A' hn).pad (pad_rep [] (defaultValue (.object C)) cap)
    simpa using q
  obtain ⟨t, o, h1, h2⟩ := k h' h.size kA rfl E' V O' T' ⟨vm0, k0, _, hWf, X', e', hx, hZ, hown, hS, Nat.le_trans hk E'.1, hEL, hC.trans (CHr.ext E' hC.1), hN, hO.ext E'⟩
  exact ⟨t, o, st' _ h1, h2⟩
theorem go_stR {a y : Addr} {kA : ClassId} {z j : Int32} {vs vs' : List Value} {i : Nat} {K C : String} (A : Arv Z h a kA (.object K) z vs .null) (O0 : Ovr Z kA C) (I : Ins Z h y C true) (ha : Z.heap.size ≤ a) (hj0 : ¬ j < 0) (hjz : j < z) (hji : j.toNatClampNeg = i) (hi : i < vs.length) (hvs : vs.set i (.ref y) = vs') (hd : decode c.code pc = .ok (.aastore, 1)) (hp : pc + 1 = pc')
    (k : ∀ h', Wr h h' a i (.ref y) → Arv Z h' a kA (.object K) z vs' .null → Go W EL Z a0 own p l e R s m args below meth c F h' cells slots (mkF m pc' ls st)) : Go W EL Z a0 own p l e R s m args below meth c F h cells slots (mkF m pc ls (.ref y :: .int j :: .ref a :: st)) := by
  subst hp hvs hji
  intro T P
  obtain ⟨vm0, k0, locs, hWf, X, eT, hx, hZ, hown, hS, hk, hEL, hC, hN, hO⟩ := P
  obtain ⟨cl, Ar, q1, S1, N1, H1, G1⟩ := A
  obtain ⟨T', h', X', e', W', st'⟩ := stR X hx hZ eT Ar (j := j) (inb_of S1 ⟨hj0, hjz⟩) rfl (Sto.ofV Ar q1 O0 I) (g := mkF m pc ls (.ref y :: .int j :: .ref a :: st)) rfl rfl hd
  have S0 : Safe Z EL vm0 h a := Safe.arr hZ.alike Ar (by simp)
  obtain ⟨t, o, h1, h2⟩ := k h' W' (Arv.set Ar q1 S1 N1 H1 G1 rfl W' _ rfl hi) T' ⟨vm0, k0, _, hWf, X', e', hx, hZ, hown, hS, by rw [W'.size]; exact hk, hEL, hC.trans (CHr.wr W' S0 hC.1), Fr.snoc X' hN ha, hO.wr W' ha⟩
  exact ⟨t, o, st' _ h1, h2⟩
theorem go_clone {a : Addr} {kA : ClassId} {z : Int32} {vs : List Value} {dv : Value} {ty : FieldType} {ad : String} {index Wd cap : Nat} (w1 : (Jvm.Cond.methodLink own index ⟨ad, "clone", "()Ljava/lang/Object;"⟩).before a0 Z = true) (w2 : (Jvm.Cond.sameMethod ad "java/lang/Object" "clone" "()Ljava/lang/Object;").before a0 Z = true) (w3 : (Jvm.Cond.native ⟨"java/lang/Object", "clone", "()Ljava/lang/Object;"⟩).before a0 Z = true) (w4 : (Jvm.Cond.instanceMethod ⟨"java/lang/Object", "clone", "()Ljava/lang/Object;"⟩).before a0 Z = true) (w5 : (Jvm.Cond.selects ad ⟨ad, "clone", "()Ljava/lang/Object;"⟩ ⟨"java/lang/Object", "clone", "()Ljava/lang/Object;"⟩).before a0 Z = true) (w6 : (Jvm.Cond.castable ad "java/lang/Cloneable").before a0 Z = true)
    (A : Arv Z h a kA ty z vs dv) (E : Exa Z h a ad) (hsize : ls.size = c.maxLocals) (hW : 2 * 0 + (st.map fun v => v.category).sum ≤ Wd) (hf : 1 ≤ R.frames) (hl : Wd + 14 ≤ R.locals) (hcap : z.toNatClampNeg = cap) (hd : decode c.code pc = .ok (.invokevirtual index, 3)) (hp : pc + 3 = pc') (hcl : cells + 1 = cells') (hsl : slots + cap = slots') (hc : cells' ≤ R.cells) (hs : slots' ≤ R.slots)
    (k : ∀ (h' : Heap) (b : Addr), h.size = b → Ext h h' → Arv Z h' b kA ty z vs dv → Exa Z h' b ad → Go W EL Z a0 own p l e R s m args below meth c F h' cells' slots' (mkF m pc' ls (.ref b :: st))) : Go W EL Z a0 own p l e R s m args below meth c F h cells slots (mkF m pc ls (.ref a :: st)) := by
  subst hp hcl hsl
  intro T P
  obtain ⟨vm0, k0, locs, hWf, X, eT, hx, hZ, hown, hS, hk, hEL, hC, hN, hO⟩ := P
  obtain ⟨cl, Ar, q1, S1, N1, H1, G1⟩ := A
  have FC : FitC Z cl := fitC_of Ar fun i hi v hv => by rw [H1 i hi] at hv; cases hv; exact G1 i hi
  obtain ⟨T', h', X', e', E', A', B', st'⟩ := cloneA X hx hZ hown w1 w2 w3 w4 w5 w6 eT Ar E FC (g := mkF m pc ls (.ref a :: st)) rfl hsize rfl hd hf (W := Wd) hW hl (cap := cap) (by rw [S1]; exact Nat.le_of_eq hcap) hc hs
  obtain ⟨t, o, h1, h2⟩ := k h' h.size rfl E' ⟨cloneOf cl, A', q1, S1, N1, H1, G1⟩ B' T' ⟨vm0, k0, _, hWf, X', e', hx, hZ, hown, hS, Nat.le_trans hk E'.1, hEL, hC.trans (CHr.ext E' hC.1), hN, hO.ext E'⟩
  exact ⟨t, o, st' _ h1, h2⟩
end Own
abbrev EL1 : List (String × Nat) := []
def GH (Z : State) (a0 : Array Value) : Prop := (∀ d ∈ tables_1, d.before a0 Z = true) ∧ (∀ d ∈ jdkStatics_1, d.before a0 Z = true) ∧ EW Z a0 EL1 ∧ (narrow_1.value a0 Z none Z [] = some true) ∧ Fit Z
theorem wk {Z : State} {a0 : Array Value} (G : GH Z a0) (k : Nat) {d : Jvm.Cond} (q : tables_1[k]? = some d) : d.before a0 Z = true := G.1 _ (List.mem_of_getElem? q)
theorem jk {Z : State} {a0 : Array Value} (G : GH Z a0) (k : Nat) {d : Jvm.Cond} (q : jdkStatics_1[k]? = some d) : d.before a0 Z = true := G.2.1 _ (List.mem_of_getElem? q)
theorem ew1 {Z : State} {a0 : Array Value} (G : GH Z a0) : EW Z a0 EL1 := G.2.2.1
theorem wS {Z : State} {a0 : Array Value} (G : GH Z a0) : ∀ a ∈ Bundle.stringAtoms, a.before a0 Z = true := fun a ha => G.1 a ((by decide +kernel : ∀ d ∈ Bundle.stringAtoms, d ∈ tables_1) a ha)
theorem cs_of {Z : State} {a0 : Array Value} (G : GH Z a0) : ∃ z, Sta Z Z.heap "java/lang/String" "COMPACT_STRINGS" "Z" (.int z) ∧ ¬ z = 0 := by
  obtain ⟨z, e1⟩ := is_v (Cond.before_iff.mp (jk G 1 rfl))
  exact ⟨z, Sta.start e1 (Or.inl (jk G 0 rfl)), gotF (Cond.eq_ints e1 (Term.int_eval (0))) (not_v (Cond.before_iff.mp (jk G 2 rfl)))⟩
theorem sf_of {Z : State} {a0 : Array Value} (G : GH Z a0) : ∃ v, Sta Z Z.heap "jdk/internal/util/Preconditions" "SIOOBE_FORMATTER" "Ljava/util/function/BiFunction;" v ∧ v.isRef = true := by
  obtain ⟨v, e1, r1⟩ := isR_v (Cond.before_iff.mp (jk G 8 rfl))
  exact ⟨v, Sta.start e1 (Or.inl (jk G 7 rfl)), r1⟩
theorem nar_c8 {c : Int32} (q : ¬ c < 0 ∧ ¬ (255 : Int32) < c) : narrow .char (.int c) = .int c := by
  show Value.int (nar .char c) = _
  rw [show nar .char c = c.toUInt32.toUInt16.toUInt32.toInt32 from rfl]
  have r := c_i2c c
  obtain ⟨q1, q2⟩ := q
  rw [Int32.lt_iff_toInt_lt] at q1 q2
  have e1 : (255 : Int32).toInt = 255 := by decide
  have e0 : (0 : Int32).toInt = 0 := by decide
  congr 1
  apply Int32.toInt_inj.mp
  omega
section OwnStr
variable {W : Bool} {EL : List (String × Nat)} {Z : State} {a0 : Array Value} {own : String} {p : Program} {l : Launch} {e : Env} {R : Room} {below : List Frame} {h h' : Heap} {x b : Addr} {cs ds : List Int32}
abbrev C8 (c : Int32) : Prop := ¬ c < 0 ∧ ¬ (255 : Int32) < c
theorem c8n : ∀ c ∈ ([] : List Int32), C8 c := fun _ q => nomatch q
theorem c8c {y : Int32} {L : List Int32} (q : C8 y) (r : ∀ c ∈ L, C8 c) : ∀ c ∈ y :: L, C8 c := fun c hc => by
  rcases List.mem_cons.mp hc with rfl | hc
  · exact q
  · exact r c hc
theorem c8_m (y : Int32) : C8 (y &&& 255) := by
  have q := c_and y 255 (by decide)
  have e1 : (255 : Int32).toInt = 255 := by decide
  have e0 : (0 : Int32).toInt = 0 := by decide
  constructor <;> (intro r; rw [Int32.lt_iff_toInt_lt] at r; omega)
theorem c8_l (y : Int64) : C8 ((y &&& (255 : Int64)).toInt32) := by
  have e : (y &&& (255 : Int64)).toInt32 = y.toInt32 &&& 255 := by
    rw [Int64.toInt32_and]; rfl
  rw [e]; exact c8_m _
theorem c8_up {c : Int32} (q : C8 c) : ¬ c < 0 ∧ ¬ (65535 : Int32) < c := ⟨q.1, fun r => q.2 (by
  rw [Int32.lt_iff_toInt_lt] at r ⊢
  have e1 : (65535 : Int32).toInt = 65535 := by decide
  have e2 : (255 : Int32).toInt = 255 := by decide
  omega)⟩
theorem i2c_c16 {c : Int32} (q : ¬ c < 0 ∧ ¬ (65535 : Int32) < c) : c.toUInt32.toUInt16.toUInt32.toInt32 = c := by
  have r := c_i2c c
  obtain ⟨q1, q2⟩ := q
  rw [Int32.lt_iff_toInt_lt] at q1 q2
  have e1 : (65535 : Int32).toInt = 65535 := by decide
  have e0 : (0 : Int32).toInt = 0 := by decide
  apply Int32.toInt_inj.mp
  omega
theorem i2c_c8 {c : Int32} (q : C8 c) : c.toUInt32.toUInt16.toUInt32.toInt32 = c := i2c_c16 (c8_up q)
def Str (Z : State) (h : Heap) (a : Addr) (cs : List Int32) : Prop := ∃ (t : Addr) (kb : ClassId), Exa Z h a "java/lang/String" ∧ Fld Z h a "java/lang/String" "value" "[B" (.ref t) ∧ Fld Z h a "java/lang/String" "coder" "B" (.int 0) ∧ Arv Z h t kb .byte (Int32.ofNat cs.length) ((cs.map fun c => c.toInt8.toInt32).map Value.int) (.int 0) ∧ (∀ c ∈ cs, C8 c) ∧ cs.length ≤ 4000
theorem Str.exa (S : Str Z h x cs) : Exa Z h x "java/lang/String" := by obtain ⟨t, k, q, -⟩ := S; exact q
theorem Str.keep (S : Str Z h x cs) (K : Keep h h' []) : Str Z h' x cs := by
  obtain ⟨t, k, q1, q2, q3, q4, q5, q6⟩ := S
  exact ⟨t, k, q1.keep K, q2.keep K nin0, q3.keep K nin0, q4.keep K nin0, q5, q6⟩
theorem Str.ext (S : Str Z h x cs) (E : Ext h h') : Str Z h' x cs := S.keep ((Keep.refl h []).ext E)
theorem Str.keepX {C : String} {n : Nat} (S : Str Z h x cs) (K : Keep h h' [b]) (E : Exa Z h b C) (hC : C ≠ "java/lang/String") (wi : (Jvm.Cond.instantiable C n).before a0 Z = true) : Str Z h' x cs := by
  obtain ⟨t, k, q1, q2, q3, q4, q5, q6⟩ := S
  have n1 : x ≠ b := ne_exa q1 E (Ne.symm hC)
  obtain ⟨cl, Ar, -⟩ := id q4
  have n2 : t ≠ b := Ne.symm (ne_arr E wi Ar)
  exact ⟨t, k, q1.keep K, q2.keep K (ninS n1 nin0), q3.keep K (ninS n1 nin0), q4.keep K (ninS n2 nin0), q5, q6⟩
theorem Str.keepA {n : Nat} {kA : ClassId} {ty : FieldType} {z : Int32} {vs : List Value} {dv : Value} (S : Str Z h x cs) (K : Keep h h' [b]) (A : Arv Z h b kA ty z vs dv) (ht : ty ≠ .byte) (wi : (Jvm.Cond.instantiable "java/lang/String" n).before a0 Z = true) : Str Z h' x cs := by
  obtain ⟨t, k, q1, q2, q3, q4, q5, q6⟩ := S
  obtain ⟨cl, Ar, -⟩ := A
  obtain ⟨cl', Ar', -⟩ := id q4
  have n1 : x ≠ b := ne_arr q1 wi Ar
  have n2 : t ≠ b := fun e => by
    subst e
    cases Ar.1.symm.trans Ar'.1
    obtain ⟨-, k1, h1, c1, g1⟩ := Ar.2.1
    obtain ⟨-, k2, h2, c2, g2⟩ := Ar'.2.1
    cases h1.symm.trans h2
    rw [g1] at g2
    cases g2
    exact ht rfl
  exact ⟨t, k, q1.keep K, q2.keep K (ninS n1 nin0), q3.keep K (ninS n1 nin0), q4.keep K (ninS n2 nin0), q5, q6⟩
theorem safe_null {vm : Vm} (hal : Z.vm.Alike vm) (E : Exa Z h x "java/lang/String") (V : Fld Z h x "java/lang/String" "value" "[B" .null) : Safe Z EL vm h x := fun B => by
  obtain ⟨cell, k, e1, e2, e3, -, -⟩ := E
  obtain ⟨cell', cf, k', i, f, v1, v2, v3, v4, v5, v6, v7⟩ := V
  cases e1.symm.trans v1
  obtain ⟨p, -, u, a, -, q, -, F, rfl | rfl⟩ := B
  · cases (show h[q.sa]? = some q.sC from F.ha).symm.trans e1
    obtain ⟨cS, ⟨⟨s1, s2, s3, ⟨cv, kv, iv, s4, s4'⟩, s5, s6, s7, s8, s9⟩, -, -⟩, -⟩ := F
    obtain ⟨kz, z4⟩ := ff_back (U := Wst Z vm h) hal s4
    cases z4.symm.trans v2
    rw [s8] at v7
    cases v7
  · cases (show h[q.sd]? = some q.SA from F.hd).symm.trans e1
    obtain ⟨cS, -, -, fB, -⟩ := F
    have f' : vm.findClass "[B" = some q.SA.cls := fB
    rw [hal.findClass] at f'
    obtain ⟨k1, q1, q2⟩ := Vm.findClass_spec f'
    obtain ⟨k2, q3, q4⟩ := Vm.findClass_spec e2
    cases q1.symm.trans q3
    exact absurd (q2.symm.trans q4) (by decide)
theorem pay_new (G : GH Z a0) (O : Old Z Z.heap.size h) {kC : ClassId} {d v0 c0 : Value} {N : Int32} {n Wd : Nat} (hx0 : Z.heap.size ≤ x) (E : Exa Z h x "java/lang/String") (V : Fld Z h x "java/lang/String" "value" "[B" v0) (C : Fld Z h x "java/lang/String" "coder" "B" c0) (K : Arv Z h b kC .char N (cs.map Value.int) d) (hn : cs.length = n) (hN : N = Int32.ofNat n) (l0 : 0 < n) (l2 : n ≤ 4000) (hp : ∀ c ∈ cs, C8 c) (hfr : 4 ≤ R.frames) (hlo : Wd + 65 ≤ R.locals) :
    Pay l R p e below Z (⟨"java/lang/String", "<init>", "([C)V"⟩ : MethodName) Wd #[.ref x, .ref b] h 1 n [x] (rno fun h' => Str Z h' x cs) := by
  intro s args hZ
  obtain ⟨z, hS, hz⟩ := cs_of G
  refine (StrChars.Road.backV (W := Wd) hZ (fun d hd => G.1 d ((by decide +kernel : ∀ d ∈ StrChars.Road.words, d ∈ tables_1) d hd)) (kI := 4) (wk G 10 rfl) hx0 O.2.1 E V C K (hS.ext O.2) hz hn hN l0 l2 hp rfl hfr hlo).mono (fun _ _ q => q) ?_
  rintro A a v B - ⟨L, ⟨rfl, q1, q2, q3, q4, t, kb, q5, q6, q7, q8, q9⟩, b1, b2, b3⟩
  subst hn hN
  exact ⟨L, ⟨⟨rfl, t, kb, q3, q8, q4, q9, hp, l2⟩, q1, q2⟩, b1, b2, b3⟩
end OwnStr
theorem len_lt {args : Array Value} {first s : State} {o : Option Outcome} {idx : List Nat} {t : Term} {y : Addr} {cl : Cell} {n : Int32} (ht : t.eval args first o idx s = some (.ref y)) (ha : s.arrayAt? y = some cl) (q : (Term.length t).eval args first o idx s = some (.int n)) : cl.slots.size < 2 ^ 31 ∧ cl.slots.size.toInt32 = n := by
  by_cases r : cl.slots.size < 2 ^ 31
  · rw [len_f ht ha r] at q
    cases q
    exact ⟨r, rfl⟩
  · simp [Term.eval, ht, ha, r] at q
def s_EMPTY (Z : State) : Addr := (((Term.static "java/util/ImmutableCollections" "EMPTY" "Ljava/lang/Object;").eval #[] Z none [] Z).bind refO).getD 0
theorem st_EMPTY {Z : State} {a0 : Array Value} (G : GH Z a0) : Sta Z Z.heap "java/util/ImmutableCollections" "EMPTY" "Ljava/lang/Object;" (.ref (s_EMPTY Z)) := by
  obtain ⟨a, ea⟩ := exa_v (Cond.before_iff.mp (jk G 11 rfl))
  have r : s_EMPTY Z = a := by
    unfold s_EMPTY
    rw [show (Term.static "java/util/ImmutableCollections" "EMPTY" "Ljava/lang/Object;").eval #[] Z none [] Z = some (.ref a) from ea]
    rfl
  rw [r]
  exact Sta.start ea (Or.inl (jk G 10 rfl))
def s_DEF (Z : State) : Addr := (((Term.static "java/util/ArrayList" "DEFAULTCAPACITY_EMPTY_ELEMENTDATA" "[Ljava/lang/Object;").eval #[] Z none [] Z).bind refO).getD 0
theorem ev_DEF {Z : State} {a0 : Array Value} (G : GH Z a0) : (Term.static "java/util/ArrayList" "DEFAULTCAPACITY_EMPTY_ELEMENTDATA" "[Ljava/lang/Object;").eval a0 Z none [] Z = some (.ref (s_DEF Z)) := by
  obtain ⟨a, ea⟩ := arr_v (Cond.before_iff.mp (jk G 24 rfl))
  have r : s_DEF Z = a := by
    unfold s_DEF
    rw [show (Term.static "java/util/ArrayList" "DEFAULTCAPACITY_EMPTY_ELEMENTDATA" "[Ljava/lang/Object;").eval #[] Z none [] Z = some (.ref a) from ea]
    rfl
  rw [r]; exact ea
theorem st_DEF {Z : State} {a0 : Array Value} (G : GH Z a0) : Sta Z Z.heap "java/util/ArrayList" "DEFAULTCAPACITY_EMPTY_ELEMENTDATA" "[Ljava/lang/Object;" (.ref (s_DEF Z)) := Sta.start (ev_DEF G) (Or.inr ⟨wk G 154 rfl, jk G 20 rfl⟩)
theorem ar_DEF {Z : State} {a0 : Array Value} (G : GH Z a0) : ∃ k, Arv Z Z.heap (s_DEF Z) k (.object "java/lang/Object") (0 : Int32) [] .null := by
  obtain ⟨c, A⟩ := Arr.start (ev_DEF G) (Cond.before_iff.mp (jk G 24 rfl))
  have q := eqv_i (Term.int_eval (0 : Int32)) (Cond.before_iff.mp (jk G 26 rfl))
  obtain ⟨l1, l2⟩ := len_lt (ev_DEF G) (A.fin (Vm.Alike.refl _)) q
  have e : c.slots.size = 0 := by
    have e1 := len_toInt l1
    rw [l2] at e1
    have e0 : (0 : Int32).toInt = 0 := by decide
    omega
  exact ⟨c.cls, c, A, rfl, by rw [e]; rfl, by decide, fun k hk => by omega, fun k hk => by omega⟩
def sa (Z : State) (C n d : String) : Addr := (((Term.static C n d).eval #[] Z none [] Z).bind refO).getD 0
theorem sta_ref {Z : State} {a0 : Array Value} {C n d K : String} (q : (Jvm.Cond.exactly (.static C n d) K).value a0 Z none Z [] = some true) (hi : (Jvm.Cond.initialized C).before a0 Z = true ∧ (Jvm.Cond.laysStatic C n d).before a0 Z = true) : Sta Z Z.heap C n d (.ref (sa Z C n d)) ∧ Exa Z Z.heap (sa Z C n d) K := by
  obtain ⟨y, e1⟩ := exa_v q
  have r : sa Z C n d = y := by
    unfold sa
    rw [show (Term.static C n d).eval #[] Z none [] Z = some (.ref y) from e1]
    rfl
  rw [r]
  exact ⟨Sta.start e1 (Or.inr hi), Exa.start e1 q⟩
def s_SCALAR (Z : State) : Addr := sa Z "com/example/hew/hew/Message$Field$Kind" "SCALAR" "Lcom/example/hew/hew/Message$Field$Kind;"
theorem se_SCALAR {Z : State} {a0 : Array Value} (G : GH Z a0) : Sta Z Z.heap "com/example/hew/hew/Message$Field$Kind" "SCALAR" "Lcom/example/hew/hew/Message$Field$Kind;" (.ref (s_SCALAR Z)) ∧ Exa Z Z.heap (s_SCALAR Z) "com/example/hew/hew/Message$Field$Kind" := sta_ref ((and_e G.2.2.2.1).1) ⟨(wk G 6 rfl), (wk G 7 rfl)⟩
def s_ENUM (Z : State) : Addr := sa Z "com/example/hew/hew/Message$Field$Kind" "ENUM" "Lcom/example/hew/hew/Message$Field$Kind;"
theorem se_ENUM {Z : State} {a0 : Array Value} (G : GH Z a0) : Sta Z Z.heap "com/example/hew/hew/Message$Field$Kind" "ENUM" "Lcom/example/hew/hew/Message$Field$Kind;" (.ref (s_ENUM Z)) ∧ Exa Z Z.heap (s_ENUM Z) "com/example/hew/hew/Message$Field$Kind" := sta_ref ((and_e (and_e G.2.2.2.1).2).1) ⟨(wk G 6 rfl), (wk G 149 rfl)⟩
def s_MESSAGE (Z : State) : Addr := sa Z "com/example/hew/hew/Message$Field$Kind" "MESSAGE" "Lcom/example/hew/hew/Message$Field$Kind;"
theorem se_MESSAGE {Z : State} {a0 : Array Value} (G : GH Z a0) : Sta Z Z.heap "com/example/hew/hew/Message$Field$Kind" "MESSAGE" "Lcom/example/hew/hew/Message$Field$Kind;" (.ref (s_MESSAGE Z)) ∧ Exa Z Z.heap (s_MESSAGE Z) "com/example/hew/hew/Message$Field$Kind" := sta_ref ((and_e (and_e G.2.2.2.1).2).2) ⟨(wk G 6 rfl), (wk G 151 rfl)⟩
theorem d1_0 : decode jdk_43_method_3_code 0 = .ok (.iload_n 0, 1) := by decide +kernel
theorem d1_1 : decode jdk_43_method_3_code 1 = .ok (.sipush 255, 3) := by decide +kernel
theorem d1_4 : decode jdk_43_method_3_code 4 = .ok (.if_icmp .gt 7, 3) := by decide +kernel
theorem d1_7 : decode jdk_43_method_3_code 7 = .ok (.iconst 1, 1) := by decide +kernel
theorem d1_8 : decode jdk_43_method_3_code 8 = .ok (.goto 4, 3) := by decide +kernel
theorem d1_12 : decode jdk_43_method_3_code 12 = .ok (.ireturn, 1) := by decide +kernel
theorem pn1 : plainName "java/lang/StringLatin1" = true := by first | (simp [plainName, overriddenIn]; done) | decide +kernel
theorem d2_0 : decode jdk_43_method_46_code 0 = .ok (.iconst 1, 1) := by decide +kernel
theorem d2_1 : decode jdk_43_method_46_code 1 = .ok (.newarray .byte, 2) := by decide +kernel
theorem d2_3 : decode jdk_43_method_46_code 3 = .ok (.dup, 1) := by decide +kernel
theorem d2_4 : decode jdk_43_method_46_code 4 = .ok (.iconst 0, 1) := by decide +kernel
theorem d2_5 : decode jdk_43_method_46_code 5 = .ok (.iload_n 0, 1) := by decide +kernel
theorem d2_6 : decode jdk_43_method_46_code 6 = .ok (.i2b, 1) := by decide +kernel
theorem d2_7 : decode jdk_43_method_46_code 7 = .ok (.bastore, 1) := by decide +kernel
theorem d2_8 : decode jdk_43_method_46_code 8 = .ok (.areturn, 1) := by decide +kernel
theorem d3_0 : decode jdk_42_method_151_code 0 = .ok (.aload_n 0, 1) := by decide +kernel
theorem d3_1 : decode jdk_42_method_151_code 1 = .ok (.invokespecial 1, 3) := by decide +kernel
theorem d3_4 : decode jdk_42_method_151_code 4 = .ok (.aload_n 0, 1) := by decide +kernel
theorem d3_5 : decode jdk_42_method_151_code 5 = .ok (.aload_n 1, 1) := by decide +kernel
theorem d3_6 : decode jdk_42_method_151_code 6 = .ok (.putfield 9, 3) := by decide +kernel
theorem d3_9 : decode jdk_42_method_151_code 9 = .ok (.aload_n 0, 1) := by decide +kernel
theorem d3_10 : decode jdk_42_method_151_code 10 = .ok (.iload_n 2, 1) := by decide +kernel
theorem d3_11 : decode jdk_42_method_151_code 11 = .ok (.putfield 15, 3) := by decide +kernel
theorem d3_14 : decode jdk_42_method_151_code 14 = .ok (.return_, 1) := by decide +kernel
theorem pn2 : plainName "java/lang/String" = true := by first | (simp [plainName, overriddenIn]; done) | decide +kernel
theorem d4_0 : decode jdk_42_method_139_code 0 = .ok (.getstatic 38, 3) := by decide +kernel
theorem d4_3 : decode jdk_42_method_139_code 3 = .ok (.ifCond .eq 23, 3) := by decide +kernel
theorem d4_6 : decode jdk_42_method_139_code 6 = .ok (.iload_n 0, 1) := by decide +kernel
theorem pd1 : parseMethodDescriptor "(C)Z" = some ⟨[.char], some .boolean⟩ := by decide +kernel
theorem d4_7 : decode jdk_42_method_139_code 7 = .ok (.invokestatic 1015, 3) := by decide +kernel
theorem d4_10 : decode jdk_42_method_139_code 10 = .ok (.ifCond .eq 16, 3) := by decide +kernel
theorem d4_13 : decode jdk_42_method_139_code 13 = .ok (.new 10, 3) := by decide +kernel
theorem d4_16 : decode jdk_42_method_139_code 16 = .ok (.dup, 1) := by decide +kernel
theorem d4_17 : decode jdk_42_method_139_code 17 = .ok (.iload_n 0, 1) := by decide +kernel
theorem pd2 : parseMethodDescriptor "(C)[B" = some ⟨[.char], some (.array .byte)⟩ := by decide +kernel
theorem d4_18 : decode jdk_42_method_139_code 18 = .ok (.invokestatic 1018, 3) := by decide +kernel
theorem d4_21 : decode jdk_42_method_139_code 21 = .ok (.iconst 0, 1) := by decide +kernel
theorem pd3 : parseMethodDescriptor "([BB)V" = some ⟨[(.array .byte), .byte], none⟩ := by decide +kernel
theorem d4_22 : decode jdk_42_method_139_code 22 = .ok (.invokespecial 209, 3) := by decide +kernel
theorem d4_25 : decode jdk_42_method_139_code 25 = .ok (.areturn, 1) := by decide +kernel
theorem d5_0 : decode jdk_31_method_11_code 0 = .ok (.aload_n 0, 1) := by decide +kernel
theorem d5_1 : decode jdk_31_method_11_code 1 = .ok (.ifnonnull 12, 3) := by decide +kernel
theorem d5_13 : decode jdk_31_method_11_code 13 = .ok (.aload_n 0, 1) := by decide +kernel
theorem d5_14 : decode jdk_31_method_11_code 14 = .ok (.areturn, 1) := by decide +kernel
theorem pn3 : plainName "java/util/Objects" = true := by first | (simp [plainName, overriddenIn]; done) | decide +kernel
theorem d6_0 : decode jdk_31_method_10_code 0 = .ok (.aload_n 0, 1) := by decide +kernel
theorem d6_1 : decode jdk_31_method_10_code 1 = .ok (.ifnonnull 11, 3) := by decide +kernel
theorem d6_12 : decode jdk_31_method_10_code 12 = .ok (.aload_n 0, 1) := by decide +kernel
theorem d6_13 : decode jdk_31_method_10_code 13 = .ok (.areturn, 1) := by decide +kernel
theorem d7_0 : decode method_2_code 0 = .ok (.iload_n 0, 1) := by decide +kernel
theorem d7_1 : decode method_2_code 1 = .ok (.ldc 7, 2) := by decide +kernel
theorem d7_3 : decode method_2_code 3 = .ok (.iand, 1) := by decide +kernel
theorem d7_4 : decode method_2_code 4 = .ok (.iconst 3, 1) := by decide +kernel
theorem d7_5 : decode method_2_code 5 = .ok (.irem, 1) := by decide +kernel
theorem d7_6 : decode method_2_code 6 = .ok (.istore_n 1, 1) := by decide +kernel
theorem d7_7 : decode method_2_code 7 = .ok (.iload_n 1, 1) := by decide +kernel
theorem d7_8 : decode method_2_code 8 = .ok (.ifCond .ne 7, 3) := by decide +kernel
theorem d7_11 : decode method_2_code 11 = .ok (.getstatic 8, 3) := by decide +kernel
theorem d7_14 : decode method_2_code 14 = .ok (.areturn, 1) := by decide +kernel
theorem d7_15 : decode method_2_code 15 = .ok (.iload_n 1, 1) := by decide +kernel
theorem d7_16 : decode method_2_code 16 = .ok (.iconst 1, 1) := by decide +kernel
theorem d7_17 : decode method_2_code 17 = .ok (.if_icmp .ne 7, 3) := by decide +kernel
theorem d7_20 : decode method_2_code 20 = .ok (.getstatic 14, 3) := by decide +kernel
theorem d7_23 : decode method_2_code 23 = .ok (.areturn, 1) := by decide +kernel
theorem d7_24 : decode method_2_code 24 = .ok (.getstatic 17, 3) := by decide +kernel
theorem d7_27 : decode method_2_code 27 = .ok (.areturn, 1) := by decide +kernel
theorem pn4 : plainName "com/example/hew/hew/FieldIsMapPinLaw" = true := by first | (simp [plainName, overriddenIn]; done) | decide +kernel
theorem d8_0 : decode prog_39_method_1_code 0 = .ok (.aload_n 0, 1) := by decide +kernel
theorem d8_1 : decode prog_39_method_1_code 1 = .ok (.invokespecial 1, 3) := by decide +kernel
theorem d8_4 : decode prog_39_method_1_code 4 = .ok (.aload_n 0, 1) := by decide +kernel
theorem d8_5 : decode prog_39_method_1_code 5 = .ok (.aload_n 1, 1) := by decide +kernel
theorem d8_6 : decode prog_39_method_1_code 6 = .ok (.ldc 7, 2) := by decide +kernel
theorem pd4 : parseMethodDescriptor "(Ljava/lang/Object;Ljava/lang/String;)Ljava/lang/Object;" = some ⟨[(.object "java/lang/Object"), (.object "java/lang/String")], some (.object "java/lang/Object")⟩ := by decide +kernel
theorem d8_8 : decode prog_39_method_1_code 8 = .ok (.invokestatic 9, 3) := by decide +kernel
theorem d8_11 : decode prog_39_method_1_code 11 = .ok (.checkcast 15, 3) := by decide +kernel
theorem d8_14 : decode prog_39_method_1_code 14 = .ok (.putfield 17, 3) := by decide +kernel
theorem d8_17 : decode prog_39_method_1_code 17 = .ok (.aload_n 0, 1) := by decide +kernel
theorem d8_18 : decode prog_39_method_1_code 18 = .ok (.iload_n 2, 1) := by decide +kernel
theorem d8_19 : decode prog_39_method_1_code 19 = .ok (.putfield 22, 3) := by decide +kernel
theorem d8_22 : decode prog_39_method_1_code 22 = .ok (.aload_n 0, 1) := by decide +kernel
theorem d8_23 : decode prog_39_method_1_code 23 = .ok (.iload_n 3, 1) := by decide +kernel
theorem d8_24 : decode prog_39_method_1_code 24 = .ok (.putfield 26, 3) := by decide +kernel
theorem d8_27 : decode prog_39_method_1_code 27 = .ok (.return_, 1) := by decide +kernel
theorem pn5 : plainName "com/example/hew/hew/Place" = true := by first | (simp [plainName, overriddenIn]; done) | decide +kernel
theorem d9_0 : decode jdk_22_method_1_code 0 = .ok (.aload_n 0, 1) := by decide +kernel
theorem d9_1 : decode jdk_22_method_1_code 1 = .ok (.invokespecial 1, 3) := by decide +kernel
theorem d9_4 : decode jdk_22_method_1_code 4 = .ok (.return_, 1) := by decide +kernel
theorem pn6 : plainName "java/util/AbstractCollection" = true := by first | (simp [plainName, overriddenIn]; done) | decide +kernel
theorem d10_0 : decode jdk_47_method_1_code 0 = .ok (.aload_n 0, 1) := by decide +kernel
theorem pd5 : parseMethodDescriptor "()V" = some ⟨[], none⟩ := by decide +kernel
theorem d10_1 : decode jdk_47_method_1_code 1 = .ok (.invokespecial 1, 3) := by decide +kernel
theorem d10_4 : decode jdk_47_method_1_code 4 = .ok (.return_, 1) := by decide +kernel
theorem pn7 : plainName "java/util/ImmutableCollections$AbstractImmutableCollection" = true := by first | (simp [plainName, overriddenIn]; done) | decide +kernel
theorem d11_0 : decode jdk_46_method_1_code 0 = .ok (.aload_n 0, 1) := by decide +kernel
theorem d11_1 : decode jdk_46_method_1_code 1 = .ok (.invokespecial 1, 3) := by decide +kernel
theorem d11_4 : decode jdk_46_method_1_code 4 = .ok (.return_, 1) := by decide +kernel
theorem pn8 : plainName "java/util/ImmutableCollections$AbstractImmutableList" = true := by first | (simp [plainName, overriddenIn]; done) | decide +kernel
theorem d12_0 : decode jdk_44_method_1_code 0 = .ok (.aload_n 0, 1) := by decide +kernel
theorem d12_1 : decode jdk_44_method_1_code 1 = .ok (.invokespecial 1, 3) := by decide +kernel
theorem d12_4 : decode jdk_44_method_1_code 4 = .ok (.aload_n 0, 1) := by decide +kernel
theorem d12_5 : decode jdk_44_method_1_code 5 = .ok (.aload_n 1, 1) := by decide +kernel
theorem pd6 : parseMethodDescriptor "(Ljava/lang/Object;)Ljava/lang/Object;" = some ⟨[(.object "java/lang/Object")], some (.object "java/lang/Object")⟩ := by decide +kernel
theorem d12_6 : decode jdk_44_method_1_code 6 = .ok (.invokestatic 7, 3) := by decide +kernel
theorem d12_9 : decode jdk_44_method_1_code 9 = .ok (.putfield 13, 3) := by decide +kernel
theorem d12_12 : decode jdk_44_method_1_code 12 = .ok (.aload_n 0, 1) := by decide +kernel
theorem d12_13 : decode jdk_44_method_1_code 13 = .ok (.getstatic 19, 3) := by decide +kernel
theorem d12_16 : decode jdk_44_method_1_code 16 = .ok (.putfield 24, 3) := by decide +kernel
theorem d12_19 : decode jdk_44_method_1_code 19 = .ok (.return_, 1) := by decide +kernel
theorem pn9 : plainName "java/util/ImmutableCollections$List12" = true := by first | (simp [plainName, overriddenIn]; done) | decide +kernel
theorem d13_0 : decode jdk_40_method_37_code 0 = .ok (.new 96, 3) := by decide +kernel
theorem d13_3 : decode jdk_40_method_37_code 3 = .ok (.dup, 1) := by decide +kernel
theorem d13_4 : decode jdk_40_method_37_code 4 = .ok (.aload_n 0, 1) := by decide +kernel
theorem pd7 : parseMethodDescriptor "(Ljava/lang/Object;)V" = some ⟨[(.object "java/lang/Object")], none⟩ := by decide +kernel
theorem d13_5 : decode jdk_40_method_37_code 5 = .ok (.invokespecial 98, 3) := by decide +kernel
theorem d13_8 : decode jdk_40_method_37_code 8 = .ok (.areturn, 1) := by decide +kernel
theorem pn10 : plainName "java/util/List" = true := by first | (simp [plainName, overriddenIn]; done) | decide +kernel
theorem d14_0 : decode jdk_39_method_1_code 0 = .ok (.aload_n 0, 1) := by decide +kernel
theorem d14_1 : decode jdk_39_method_1_code 1 = .ok (.invokespecial 1, 3) := by decide +kernel
theorem d14_4 : decode jdk_39_method_1_code 4 = .ok (.aload_n 0, 1) := by decide +kernel
theorem d14_5 : decode jdk_39_method_1_code 5 = .ok (.iconst 0, 1) := by decide +kernel
theorem d14_6 : decode jdk_39_method_1_code 6 = .ok (.putfield 7, 3) := by decide +kernel
theorem d14_9 : decode jdk_39_method_1_code 9 = .ok (.return_, 1) := by decide +kernel
theorem pn11 : plainName "java/util/AbstractList" = true := by first | (simp [plainName, overriddenIn]; done) | decide +kernel
theorem d15_0 : decode jdk_38_method_2_code 0 = .ok (.aload_n 0, 1) := by decide +kernel
theorem d15_1 : decode jdk_38_method_2_code 1 = .ok (.invokespecial 1, 3) := by decide +kernel
theorem d15_4 : decode jdk_38_method_2_code 4 = .ok (.aload_n 0, 1) := by decide +kernel
theorem d15_5 : decode jdk_38_method_2_code 5 = .ok (.getstatic 39, 3) := by decide +kernel
theorem d15_8 : decode jdk_38_method_2_code 8 = .ok (.putfield 9, 3) := by decide +kernel
theorem d15_11 : decode jdk_38_method_2_code 11 = .ok (.return_, 1) := by decide +kernel
theorem pn12 : plainName "java/util/ArrayList" = true := by first | (simp [plainName, overriddenIn]; done) | decide +kernel
theorem d16_0 : decode jdk_29_method_65_code 0 = .ok (.iload_n 0, 1) := by decide +kernel
theorem d16_1 : decode jdk_29_method_65_code 1 = .ok (.iload_n 1, 1) := by decide +kernel
theorem d16_2 : decode jdk_29_method_65_code 2 = .ok (.if_icmp .lt 7, 3) := by decide +kernel
theorem d16_5 : decode jdk_29_method_65_code 5 = .ok (.iload_n 0, 1) := by decide +kernel
theorem d16_6 : decode jdk_29_method_65_code 6 = .ok (.goto 4, 3) := by decide +kernel
theorem d16_10 : decode jdk_29_method_65_code 10 = .ok (.ireturn, 1) := by decide +kernel
theorem d17_0 : decode jdk_38_method_6_code 0 = .ok (.aload_n 0, 1) := by decide +kernel
theorem d17_1 : decode jdk_38_method_6_code 1 = .ok (.getfield 9, 3) := by decide +kernel
theorem d17_4 : decode jdk_38_method_6_code 4 = .ok (.arraylength, 1) := by decide +kernel
theorem d17_5 : decode jdk_38_method_6_code 5 = .ok (.istore_n 2, 1) := by decide +kernel
theorem d17_6 : decode jdk_38_method_6_code 6 = .ok (.iload_n 2, 1) := by decide +kernel
theorem d17_7 : decode jdk_38_method_6_code 7 = .ok (.ifCond .gt 13, 3) := by decide +kernel
theorem d17_10 : decode jdk_38_method_6_code 10 = .ok (.aload_n 0, 1) := by decide +kernel
theorem d17_11 : decode jdk_38_method_6_code 11 = .ok (.getfield 9, 3) := by decide +kernel
theorem d17_14 : decode jdk_38_method_6_code 14 = .ok (.getstatic 39, 3) := by decide +kernel
theorem d17_17 : decode jdk_38_method_6_code 17 = .ok (.if_acmp .eq 28, 3) := by decide +kernel
theorem d17_45 : decode jdk_38_method_6_code 45 = .ok (.aload_n 0, 1) := by decide +kernel
theorem d17_46 : decode jdk_38_method_6_code 46 = .ok (.bipush 10, 2) := by decide +kernel
theorem d17_48 : decode jdk_38_method_6_code 48 = .ok (.iload_n 1, 1) := by decide +kernel
theorem pd8 : parseMethodDescriptor "(II)I" = some ⟨[.int, .int], some .int⟩ := by decide +kernel
theorem d17_49 : decode jdk_38_method_6_code 49 = .ok (.invokestatic 79, 3) := by decide +kernel
theorem d17_52 : decode jdk_38_method_6_code 52 = .ok (.anewarray 7, 3) := by decide +kernel
theorem d17_55 : decode jdk_38_method_6_code 55 = .ok (.dup_x1, 1) := by decide +kernel
theorem d17_56 : decode jdk_38_method_6_code 56 = .ok (.putfield 9, 3) := by decide +kernel
theorem d17_59 : decode jdk_38_method_6_code 59 = .ok (.areturn, 1) := by decide +kernel
theorem d18_0 : decode jdk_38_method_7_code 0 = .ok (.aload_n 0, 1) := by decide +kernel
theorem d18_1 : decode jdk_38_method_7_code 1 = .ok (.aload_n 0, 1) := by decide +kernel
theorem d18_2 : decode jdk_38_method_7_code 2 = .ok (.getfield 48, 3) := by decide +kernel
theorem d18_5 : decode jdk_38_method_7_code 5 = .ok (.iconst 1, 1) := by decide +kernel
theorem d18_6 : decode jdk_38_method_7_code 6 = .ok (.iadd, 1) := by decide +kernel
theorem pd9 : parseMethodDescriptor "(I)[Ljava/lang/Object;" = some ⟨[.int], some (.array (.object "java/lang/Object"))⟩ := by decide +kernel
theorem d18_7 : decode jdk_38_method_7_code 7 = .ok (.invokevirtual 69, 3) := by decide +kernel
theorem d18_10 : decode jdk_38_method_7_code 10 = .ok (.areturn, 1) := by decide +kernel
theorem d19_0 : decode jdk_38_method_24_code 0 = .ok (.iload_n 3, 1) := by decide +kernel
theorem d19_1 : decode jdk_38_method_24_code 1 = .ok (.aload_n 2, 1) := by decide +kernel
theorem d19_2 : decode jdk_38_method_24_code 2 = .ok (.arraylength, 1) := by decide +kernel
theorem d19_3 : decode jdk_38_method_24_code 3 = .ok (.if_icmp .ne 8, 3) := by decide +kernel
theorem d19_6 : decode jdk_38_method_24_code 6 = .ok (.aload_n 0, 1) := by decide +kernel
theorem pd10 : parseMethodDescriptor "()[Ljava/lang/Object;" = some ⟨[], some (.array (.object "java/lang/Object"))⟩ := by decide +kernel
theorem d19_7 : decode jdk_38_method_24_code 7 = .ok (.invokevirtual 129, 3) := by decide +kernel
theorem d19_10 : decode jdk_38_method_24_code 10 = .ok (.astore_n 2, 1) := by decide +kernel
theorem d19_11 : decode jdk_38_method_24_code 11 = .ok (.aload_n 2, 1) := by decide +kernel
theorem d19_12 : decode jdk_38_method_24_code 12 = .ok (.iload_n 3, 1) := by decide +kernel
theorem d19_13 : decode jdk_38_method_24_code 13 = .ok (.aload_n 1, 1) := by decide +kernel
theorem d19_14 : decode jdk_38_method_24_code 14 = .ok (.aastore, 1) := by decide +kernel
theorem d19_15 : decode jdk_38_method_24_code 15 = .ok (.aload_n 0, 1) := by decide +kernel
theorem d19_16 : decode jdk_38_method_24_code 16 = .ok (.iload_n 3, 1) := by decide +kernel
theorem d19_17 : decode jdk_38_method_24_code 17 = .ok (.iconst 1, 1) := by decide +kernel
theorem d19_18 : decode jdk_38_method_24_code 18 = .ok (.iadd, 1) := by decide +kernel
theorem d19_19 : decode jdk_38_method_24_code 19 = .ok (.putfield 48, 3) := by decide +kernel
theorem d19_22 : decode jdk_38_method_24_code 22 = .ok (.return_, 1) := by decide +kernel
theorem d20_0 : decode jdk_38_method_25_code 0 = .ok (.aload_n 0, 1) := by decide +kernel
theorem d20_1 : decode jdk_38_method_25_code 1 = .ok (.dup, 1) := by decide +kernel
theorem d20_2 : decode jdk_38_method_25_code 2 = .ok (.getfield 63, 3) := by decide +kernel
theorem d20_5 : decode jdk_38_method_25_code 5 = .ok (.iconst 1, 1) := by decide +kernel
theorem d20_6 : decode jdk_38_method_25_code 6 = .ok (.iadd, 1) := by decide +kernel
theorem d20_7 : decode jdk_38_method_25_code 7 = .ok (.putfield 63, 3) := by decide +kernel
theorem d20_10 : decode jdk_38_method_25_code 10 = .ok (.aload_n 0, 1) := by decide +kernel
theorem d20_11 : decode jdk_38_method_25_code 11 = .ok (.aload_n 1, 1) := by decide +kernel
theorem d20_12 : decode jdk_38_method_25_code 12 = .ok (.aload_n 0, 1) := by decide +kernel
theorem d20_13 : decode jdk_38_method_25_code 13 = .ok (.getfield 9, 3) := by decide +kernel
theorem d20_16 : decode jdk_38_method_25_code 16 = .ok (.aload_n 0, 1) := by decide +kernel
theorem d20_17 : decode jdk_38_method_25_code 17 = .ok (.getfield 48, 3) := by decide +kernel
theorem pd11 : parseMethodDescriptor "(Ljava/lang/Object;[Ljava/lang/Object;I)V" = some ⟨[(.object "java/lang/Object"), (.array (.object "java/lang/Object")), .int], none⟩ := by decide +kernel
theorem d20_20 : decode jdk_38_method_25_code 20 = .ok (.invokevirtual 131, 3) := by decide +kernel
theorem d20_23 : decode jdk_38_method_25_code 23 = .ok (.iconst 1, 1) := by decide +kernel
theorem d20_24 : decode jdk_38_method_25_code 24 = .ok (.ireturn, 1) := by decide +kernel
theorem d21_0 : decode prog_28_method_1_code 0 = .ok (.aload_n 0, 1) := by decide +kernel
theorem d21_1 : decode prog_28_method_1_code 1 = .ok (.invokespecial 1, 3) := by decide +kernel
theorem d21_4 : decode prog_28_method_1_code 4 = .ok (.aload_n 0, 1) := by decide +kernel
theorem d21_5 : decode prog_28_method_1_code 5 = .ok (.aload_n 1, 1) := by decide +kernel
theorem d21_6 : decode prog_28_method_1_code 6 = .ok (.ldc 7, 2) := by decide +kernel
theorem d21_8 : decode prog_28_method_1_code 8 = .ok (.invokestatic 9, 3) := by decide +kernel
theorem d21_11 : decode prog_28_method_1_code 11 = .ok (.checkcast 15, 3) := by decide +kernel
theorem d21_14 : decode prog_28_method_1_code 14 = .ok (.putfield 17, 3) := by decide +kernel
theorem d21_17 : decode prog_28_method_1_code 17 = .ok (.aload_n 0, 1) := by decide +kernel
theorem d21_18 : decode prog_28_method_1_code 18 = .ok (.aload_n 2, 1) := by decide +kernel
theorem d21_19 : decode prog_28_method_1_code 19 = .ok (.ldc 22, 2) := by decide +kernel
theorem d21_21 : decode prog_28_method_1_code 21 = .ok (.invokestatic 9, 3) := by decide +kernel
theorem d21_24 : decode prog_28_method_1_code 24 = .ok (.checkcast 15, 3) := by decide +kernel
theorem d21_27 : decode prog_28_method_1_code 27 = .ok (.putfield 24, 3) := by decide +kernel
theorem d21_30 : decode prog_28_method_1_code 30 = .ok (.aload_n 0, 1) := by decide +kernel
theorem d21_31 : decode prog_28_method_1_code 31 = .ok (.aload_n 3, 1) := by decide +kernel
theorem d21_32 : decode prog_28_method_1_code 32 = .ok (.ldc 26, 2) := by decide +kernel
theorem d21_34 : decode prog_28_method_1_code 34 = .ok (.invokestatic 9, 3) := by decide +kernel
theorem d21_37 : decode prog_28_method_1_code 37 = .ok (.checkcast 28, 3) := by decide +kernel
theorem d21_40 : decode prog_28_method_1_code 40 = .ok (.putfield 30, 3) := by decide +kernel
theorem d21_43 : decode prog_28_method_1_code 43 = .ok (.aload_n 0, 1) := by decide +kernel
theorem d21_44 : decode prog_28_method_1_code 44 = .ok (.iload 4, 2) := by decide +kernel
theorem d21_46 : decode prog_28_method_1_code 46 = .ok (.putfield 33, 3) := by decide +kernel
theorem d21_49 : decode prog_28_method_1_code 49 = .ok (.aload_n 0, 1) := by decide +kernel
theorem d21_50 : decode prog_28_method_1_code 50 = .ok (.aload 5, 2) := by decide +kernel
theorem d21_52 : decode prog_28_method_1_code 52 = .ok (.putfield 37, 3) := by decide +kernel
theorem d21_55 : decode prog_28_method_1_code 55 = .ok (.aload_n 0, 1) := by decide +kernel
theorem d21_56 : decode prog_28_method_1_code 56 = .ok (.aload 5, 2) := by decide +kernel
theorem d21_58 : decode prog_28_method_1_code 58 = .ok (.ifnull 8, 3) := by decide +kernel
theorem d21_66 : decode prog_28_method_1_code 66 = .ok (.aload_n 2, 1) := by decide +kernel
theorem pd12 : parseMethodDescriptor "(Ljava/lang/Object;)Ljava/util/List;" = some ⟨[(.object "java/lang/Object")], some (.object "java/util/List")⟩ := by decide +kernel
theorem d21_67 : decode prog_28_method_1_code 67 = .ok (.invokestatic 41, 3) := by decide +kernel
theorem d21_70 : decode prog_28_method_1_code 70 = .ok (.putfield 47, 3) := by decide +kernel
theorem d21_73 : decode prog_28_method_1_code 73 = .ok (.aload_n 0, 1) := by decide +kernel
theorem d21_74 : decode prog_28_method_1_code 74 = .ok (.aload 6, 2) := by decide +kernel
theorem d21_76 : decode prog_28_method_1_code 76 = .ok (.ldc 50, 2) := by decide +kernel
theorem d21_78 : decode prog_28_method_1_code 78 = .ok (.invokestatic 9, 3) := by decide +kernel
theorem d21_81 : decode prog_28_method_1_code 81 = .ok (.checkcast 52, 3) := by decide +kernel
theorem d21_84 : decode prog_28_method_1_code 84 = .ok (.putfield 54, 3) := by decide +kernel
theorem d21_87 : decode prog_28_method_1_code 87 = .ok (.return_, 1) := by decide +kernel
theorem pn13 : plainName "com/example/hew/hew/Message$Field" = true := by first | (simp [plainName, overriddenIn]; done) | decide +kernel
theorem d21_61 : decode prog_28_method_1_code 61 = .ok (.aload 5, 2) := by decide +kernel
theorem d21_63 : decode prog_28_method_1_code 63 = .ok (.goto 7, 3) := by decide +kernel
theorem d22_0 : decode prog_28_method_10_code 0 = .ok (.aload_n 0, 1) := by decide +kernel
theorem d22_1 : decode prog_28_method_10_code 1 = .ok (.getfield 37, 3) := by decide +kernel
theorem d22_4 : decode prog_28_method_10_code 4 = .ok (.ifnull 7, 3) := by decide +kernel
theorem d22_11 : decode prog_28_method_10_code 11 = .ok (.iconst 0, 1) := by decide +kernel
theorem d22_12 : decode prog_28_method_10_code 12 = .ok (.ireturn, 1) := by decide +kernel
theorem d22_7 : decode prog_28_method_10_code 7 = .ok (.iconst 1, 1) := by decide +kernel
theorem d22_8 : decode prog_28_method_10_code 8 = .ok (.goto 4, 3) := by decide +kernel
theorem pd13 : parseMethodDescriptor "(I)Lcom/example/hew/hew/Message$Field$Kind;" = some ⟨[.int], some (.object "com/example/hew/hew/Message$Field$Kind")⟩ := by decide +kernel
theorem pd14 : parseMethodDescriptor "([C)V" = some ⟨[(.array .char)], none⟩ := by decide +kernel
theorem pd15 : parseMethodDescriptor "(C)Ljava/lang/String;" = some ⟨[.char], some (.object "java/lang/String")⟩ := by decide +kernel
theorem pd16 : parseMethodDescriptor "(Ljava/lang/String;II)V" = some ⟨[(.object "java/lang/String"), .int, .int], none⟩ := by decide +kernel
theorem pd17 : parseMethodDescriptor "(Ljava/lang/String;Ljava/lang/String;Lcom/example/hew/hew/Message$Field$Kind;ZLjava/util/List;Lcom/example/hew/hew/Place;)V" = some ⟨[(.object "java/lang/String"), (.object "java/lang/String"), (.object "com/example/hew/hew/Message$Field$Kind"), .boolean, (.object "java/util/List"), (.object "com/example/hew/hew/Place")], none⟩ := by decide +kernel
theorem pd18 : parseMethodDescriptor "()Z" = some ⟨[], some .boolean⟩ := by decide +kernel
theorem pd19 : parseMethodDescriptor "(Ljava/lang/Object;)Z" = some ⟨[(.object "java/lang/Object")], some .boolean⟩ := by decide +kernel
theorem ef_canenc (m : MethodId) (c : Int32)  : entryFrame m #[(.int c)] 1 = mkF m 0 #[.val (.int c)] [] := by first | (simp [entryFrame, mkF, argsToLocals, Value.category]; done) | rfl
def Q_canenc (Z : State) (c : Int32)  (h0 : Heap) (xv : Value) (h : Heap) : Prop := (.int (1 : Int32)) = xv ∧ h0 = h
set_option maxRecDepth 65536 in
set_option maxHeartbeats 40000000 in
theorem c_canenc (l : Launch) {Z : State} {a0 : Array Value} (G : GH Z a0) (c : Int32)  (h0 : Heap) (O0 : Old Z Z.heap.size h0) (p1 : C8 c) : Con false [] l Z (⟨"java/lang/StringLatin1", "canEncode", "(C)Z"⟩ : MethodName) jdk_43_method_3_code 1 (some .boolean) [] ({ frames := 0, cells := 0, slots := 0, locals := 0 } : Room) #[(.int c)] h0 [] (rvl (Q_canenc Z c h0)) := by
  refine con_of (a0 := a0) (plainFor_of_name pn1) (fun q => rfl) EW.nil O0 (fun m => ef_canenc m c) ?_
  intro p_ e_ s_ m_ below_ meth_ c_ hby hml hret hlk hnm
  refine go_iload_n (pc' := 1) (hb hby d1_0) rfl rfl ?_
  refine go_sipush (pc' := 4) (v := 255) (hb hby d1_1) rfl rfl ?_
  refine go_icF (pc' := 7) (hb hby d1_4) rfl (XT.ii_gt_f p1.2) ?_
  refine go_iconst (pc' := 8) (v := 1) (hb hby d1_7) rfl rfl ?_
  refine go_goto (pc' := 12) (hb hby d1_8) (by decide) rfl ?_
  refine go_ireturn hret hlk rfl (by simp) (hb hby d1_12) (by decide) (by decide) ⟨_, rfl, ⟨rfl, rfl⟩⟩ (Keep.refl h0 [])
theorem ef_tobytes (m : MethodId) (c : Int32)  : entryFrame m #[(.int c)] 1 = mkF m 0 #[.val (.int c)] [] := by first | (simp [entryFrame, mkF, argsToLocals, Value.category]; done) | rfl
def Q_tobytes (Z : State) (c : Int32)  (h0 : Heap) (xv : Value) (h : Heap) : Prop := ∃ (r : Addr) (k : ClassId), (.ref r) = xv ∧ h0.size ≤ r ∧ Arv Z h r k (.byte) (1 : Int32) [(.int (c).toInt8.toInt32)] (.int 0)
set_option maxRecDepth 65536 in
set_option maxHeartbeats 40000000 in
theorem c_tobytes (l : Launch) {Z : State} {a0 : Array Value} (G : GH Z a0) (c : Int32)  (h0 : Heap) (O0 : Old Z Z.heap.size h0)  : Con false [] l Z (⟨"java/lang/StringLatin1", "toBytes", "(C)[B"⟩ : MethodName) jdk_43_method_46_code 1 (some (.array .byte)) [] ({ frames := 0, cells := 1, slots := 1, locals := 0 } : Room) #[(.int c)] h0 [] (rvl (Q_tobytes Z c h0)) := by
  refine con_of (a0 := a0) (plainFor_of_name pn1) (fun q => rfl) EW.nil O0 (fun m => ef_tobytes m c) ?_
  intro p_ e_ s_ m_ below_ meth_ c_ hby hml hret hlk hnm
  refine go_iconst (pc' := 1) (v := 1) (hb hby d2_0) rfl rfl ?_
  refine go_newP (pc' := 3) (cells' := 1) (slots' := 1) (cap := 1) (vs := [(.int (0 : Int32))]) (ty := .byte) (dv := .int 0) (wk G 27 rfl) rfl rfl (hb hby d2_1) rfl (by decide) rfl (by decide) rfl rfl rfl (by decide) (by decide) (fun h1 a2 k6 g3 X4 A5 => ?_)
  refine go_dup (pc' := 4) (hb hby d2_3) rfl rfl ?_
  refine go_iconst (pc' := 5) (v := 0) (hb hby d2_4) rfl rfl ?_
  refine go_iload_n (pc' := 6) (hb hby d2_5) rfl rfl ?_
  refine go_i2b (pc' := 7) (z := (c).toInt8.toInt32) (hb hby d2_6) rfl rfl ?_
  refine go_stB (pc' := 8) (i := 0) (x' := (c).toInt8.toInt32) (vs' := [(.int (c).toInt8.toInt32)]) rfl A5 (Nat.le_trans O0.2.1 (Nat.le_of_eq g3)) (by decide) (by decide) rfl (Nat.le_of_ble_eq_true rfl) (i2b_i2b _) rfl (hb hby d2_7) rfl (fun h7 W8 A9 => ?_)
  have K10 : Keep h0 h1 [] := ((Keep.refl h0 []).ext X4)
  have K11 : Keep h0 h7 [] := (K10.wr W8 (Or.inr (Nat.le_of_eq g3)))
  refine go_areturn hret hlk rfl rfl (hb hby d2_8) (by decide) (by decide) ⟨_, rfl, ⟨a2, k6, rfl, (Nat.le_of_eq g3), A9⟩⟩ K11
theorem ef_strbb (m : MethodId) (a : Addr) (t : Addr)  : entryFrame m #[(.ref a), (.ref t), (.int (0 : Int32))] 3 = mkF m 0 #[.val (.ref a), .val (.ref t), .val (.int (0 : Int32))] [] := by first | (simp [entryFrame, mkF, argsToLocals, Value.category]; done) | rfl
def Q_strbb (Z : State) (a : Addr) (t : Addr)  (h0 : Heap) (h : Heap) : Prop := Fld Z h a "java/lang/String" "value" "[B" (.ref t) ∧ Fld Z h a "java/lang/String" "coder" "B" (.int (0 : Int32))
set_option maxRecDepth 65536 in
set_option maxHeartbeats 40000000 in
theorem c_strbb (l : Launch) {Z : State} {a0 : Array Value} (G : GH Z a0) (a : Addr) (t : Addr)  (h0 : Heap) (O0 : Old Z Z.heap.size h0) (p1 : Exa Z h0 a "java/lang/String") (p2 : Z.heap.size ≤ a) (p3 : Fld Z h0 a "java/lang/String" "value" "[B" .null) (p4 : Fld Z h0 a "java/lang/String" "coder" "B" (.int (0 : Int32))) : Con false [] l Z (⟨"java/lang/String", "<init>", "([BB)V"⟩ : MethodName) jdk_42_method_151_code 3 none [] ({ frames := 1, cells := 0, slots := 0, locals := 12 } : Room) #[(.ref a), (.ref t), (.int (0 : Int32))] h0 [a] (rno (Q_strbb Z a t h0)) := by
  refine con_of (a0 := a0) (plainFor_of_name pn2) (fun q => rfl) EW.nil O0 (fun m => ef_strbb m a t) ?_
  intro p_ e_ s_ m_ below_ meth_ c_ hby hml hret hlk hnm
  refine go_aload_n (pc' := 1) (hb hby d3_0) rfl rfl rfl ?_
  refine go_initO (pc' := 4) (Wd := 0) (wk G 19 rfl) (wk G 20 rfl) (wk G 21 rfl) (by rw [hml]; rfl) (by decide) (by decide) (by decide) (hb hby d3_1) rfl ?_
  refine go_aload_n (pc' := 5) (hb hby d3_4) rfl rfl rfl ?_
  refine go_aload_n (pc' := 6) (hb hby d3_5) rfl rfl rfl ?_
  refine go_putF (pc' := 9) (wk G 36 rfl) Via.refl p3 p1 (Or.inr ⟨(wk G 37 rfl), rfl, hnm⟩) (wk G 10 rfl) (ty := (.array .byte)) (v' := (.ref t)) (by decide) rfl rfl p2 (Or.inr rfl) (hb hby d3_6) rfl (fun h1 W2 => ?_)
  have F3 := Fld.same W2 p3
  refine go_aload_n (pc' := 10) (hb hby d3_9) rfl rfl rfl ?_
  refine go_iload_n (pc' := 11) (hb hby d3_10) rfl rfl ?_
  have F4 := (p4.other W2 (Or.inr (slot_ne (t := .byte) (t' := (.array .byte)) (Or.inr (wk G 35 rfl)) (Or.inr (wk G 37 rfl)) (by decide) (by decide) (by decide))))
  have E5 := (p1.wr W2)
  refine go_putF (pc' := 14) (wk G 34 rfl) Via.refl F4 E5 (Or.inr ⟨(wk G 35 rfl), rfl, hnm⟩) (wk G 10 rfl) (ty := .byte) (v' := (.int (0 : Int32))) (by decide) rfl (by decide) p2 (Or.inr rfl) (hb hby d3_11) rfl (fun h6 W7 => ?_)
  have F8 := Fld.same W7 F4
  have K9 : Keep h0 h1 [a] := ((Keep.refl h0 [a]).wr W2 (Or.inl (by simp)))
  have K10 : Keep h0 h6 [a] := (K9.wr W7 (Or.inl (by simp)))
  have F11 := (F3.other W7 (Or.inr (slot_ne (t := (.array .byte)) (t' := .byte) (Or.inr (wk G 37 rfl)) (Or.inr (wk G 35 rfl)) (by decide) (by decide) (by decide))))
  refine go_return hret hlk (hb hby d3_14) (by decide) (by decide) ⟨rfl, ⟨F11, F8⟩⟩ K10
theorem ef_valueof (m : MethodId) (c : Int32)  : entryFrame m #[(.int c)] 1 = mkF m 0 #[.val (.int c)] [] := by first | (simp [entryFrame, mkF, argsToLocals, Value.category]; done) | rfl
def Q_valueof (Z : State) (c : Int32)  (h0 : Heap) (xv : Value) (h : Heap) : Prop := ∃ (r : Addr), (.ref r) = xv ∧ h0.size ≤ r ∧ Str Z h r [c]
set_option maxRecDepth 65536 in
set_option maxHeartbeats 40000000 in
theorem c_valueof (l : Launch) {Z : State} {a0 : Array Value} (G : GH Z a0) (c : Int32)  (h0 : Heap) (O0 : Old Z Z.heap.size h0) (p1 : C8 c) : Con false [] l Z (⟨"java/lang/String", "valueOf", "(C)Ljava/lang/String;"⟩ : MethodName) jdk_42_method_139_code 1 (some (.object "java/lang/String")) [] ({ frames := 2, cells := 2, slots := 5, locals := 27 } : Room) #[(.int c)] h0 [] (rvl (Q_valueof Z c h0)) := by
  refine con_of (a0 := a0) (plainFor_of_name pn2) (fun q => rfl) EW.nil O0 (fun m => ef_valueof m c) ?_
  intro p_ e_ s_ m_ below_ meth_ c_ hby hml hret hlk hnm
  obtain ⟨z1, s2, q3⟩ := cs_of G
  refine go_getS (pc' := 3) (wk G 22 rfl) (s2.ext O0.2) (hb hby d4_0) rfl ?_
  refine go_ifF (pc' := 6) (hb hby d4_3) rfl (XT.i0_eq_f q3) ?_
  refine go_iload_n (pc' := 7) (hb hby d4_6) rfl rfl ?_
  refine callS0 (cells' := 0) (slots' := 0) (Wd := 0) (argsL := [(.int c)]) (rest := []) (pay_of (a0 := a0) (c_canenc l G c h0 O0 p1) (wk G 44 rfl) (wk G 43 rfl) (by decide) (by decide)) (wk G 41 rfl) (wk G 42 rfl) (wk G 43 rfl) (wk G 44 rfl) (by decide) pd1 rfl rfl (by rw [hml]; rfl) (Nat.le_of_ble_eq_true rfl) rfl rfl (by decide) (by decide) all0 (fun _ _ => sf0) (hb hby d4_7) (k_v (pc' := 10) rfl ?_)
  rintro _ h4 ⟨rfl, rfl⟩ K5
  refine go_ifF (pc' := 13) (hb hby d4_10) rfl (by decide) ?_
  refine go_newO (pc' := 16) (cells' := 1) (slots' := 4) (wk G 45 rfl) (wk G 10 rfl) (wk G 11 rfl) (hb hby d4_13) rfl rfl rfl (by decide) (by decide) (fun h6 a7 g8 X9 E10 D11 U12 => ?_)
  refine go_dup (pc' := 17) (hb hby d4_16) rfl rfl ?_
  refine go_iload_n (pc' := 18) (hb hby d4_17) rfl rfl ?_
  refine go_old (fun O13 => ?_)
  refine callS0 (cells' := 2) (slots' := 5) (Wd := 2) (argsL := [(.int c)]) (rest := [(.ref a7), (.ref a7)]) (pay_of (a0 := a0) (c_tobytes l G c h6 O13 ) (wk G 48 rfl) (wk G 43 rfl) (by decide) (by decide)) (wk G 46 rfl) (wk G 47 rfl) (wk G 43 rfl) (wk G 48 rfl) (by decide) pd2 rfl rfl (by rw [hml]; rfl) (Nat.le_of_ble_eq_true rfl) rfl rfl (by decide) (by decide) all0 (fun _ _ => sf0) (hb hby d4_18) (k_v (pc' := 21) rfl ?_)
  rintro _ h14 ⟨r16, r17, rfl, f18, f19⟩ K15
  refine go_iconst (pc' := 22) (v := 0) (hb hby d4_21) rfl rfl ?_
  have K20 : Keep h6 h14 [] := ((Keep.refl h6 []).trans K15 all0)
  have E21 := (E10.keep K20)
  have F22 := D11 (Or.inr (wk G 37 rfl)) (ty := (.array .byte)) (by decide)
  have F23 := (F22.keep K20 nin0)
  have F24 := D11 (Or.inr (wk G 35 rfl)) (ty := .byte) (by decide)
  have F25 := (F24.keep K20 nin0)
  refine go_old (fun O26 => ?_)
  refine callI0 (cells' := 2) (slots' := 5) (Wd := 1) (argsL := [(.ref r16), (.int (0 : Int32))]) (rest := [(.ref a7)]) (pay_of (a0 := a0) (c_strbb l G a7 r16 h14 O26 E21 (Nat.le_trans O0.2.1 (Nat.le_of_eq g8)) F23 F25) (wk G 51 rfl) (wk G 11 rfl) (by decide) (by decide)) rfl (wk G 49 rfl) (wk G 50 rfl) (wk G 51 rfl) (by decide) pd3 rfl rfl (by rw [hml]; rfl) (Nat.le_of_ble_eq_true rfl) rfl rfl (by decide) (by decide) (allS (Nat.le_trans O0.2.1 (Nat.le_of_eq g8)) all0) (fun _ hal => (sfS safe_nil sf0)) (hb hby d4_22) (k_n (pc' := 25) rfl ?_)
  rintro  h27 ⟨f29, f30⟩ K28
  have K31 : Keep h0 h6 [] := ((Keep.refl h0 []).ext X9)
  have K32 : Keep h0 h14 [] := (K31.trans K15 all0)
  have K33 : Keep h0 h27 [] := (K32.trans K28 (allS (Or.inr (Nat.le_of_eq g8)) all0))
  have E34 := (E21.keep K28)
  have A35 := (f19.keep K28 (ninS (Nat.ne_of_gt (Nat.lt_of_lt_of_le E10.lt f18)) nin0))
  have S36 : Str Z h27 a7 [c] := ⟨r16, r17, E34, f29, f30, A35, (c8c p1 c8n), Nat.le_of_ble_eq_true rfl⟩
  refine go_areturn hret hlk rfl rfl (hb hby d4_25) (by decide) (by decide) ⟨_, rfl, ⟨a7, rfl, (Nat.le_of_eq g8), S36⟩⟩ K33
theorem ef_reqnn (m : MethodId) (a : Addr) (b : Addr)  : entryFrame m #[(.ref a), (.ref b)] 2 = mkF m 0 #[.val (.ref a), .val (.ref b)] [] := by first | (simp [entryFrame, mkF, argsToLocals, Value.category]; done) | rfl
def Q_reqnn (Z : State) (a : Addr) (b : Addr)  (h0 : Heap) (xv : Value) (h : Heap) : Prop := (.ref a) = xv ∧ h0 = h
set_option maxRecDepth 65536 in
set_option maxHeartbeats 40000000 in
theorem c_reqnn (l : Launch) {Z : State} {a0 : Array Value} (G : GH Z a0) (a : Addr) (b : Addr)  (h0 : Heap) (O0 : Old Z Z.heap.size h0)  : Con false [] l Z (⟨"java/util/Objects", "requireNonNull", "(Ljava/lang/Object;Ljava/lang/String;)Ljava/lang/Object;"⟩ : MethodName) jdk_31_method_11_code 2 (some (.object "java/lang/Object")) [] ({ frames := 0, cells := 0, slots := 0, locals := 0 } : Room) #[(.ref a), (.ref b)] h0 [] (rvl (Q_reqnn Z a b h0)) := by
  refine con_of (a0 := a0) (plainFor_of_name pn3) (fun q => rfl) EW.nil O0 (fun m => ef_reqnn m a b) ?_
  intro p_ e_ s_ m_ below_ meth_ c_ hby hml hret hlk hnm
  refine go_aload_n (pc' := 1) (hb hby d5_0) rfl rfl rfl ?_
  refine go_nnT (pc' := 13) (hb hby d5_1) (by decide) rfl ?_
  refine go_aload_n (pc' := 14) (hb hby d5_13) rfl rfl rfl ?_
  refine go_areturn hret hlk rfl rfl (hb hby d5_14) (by decide) (by decide) ⟨_, rfl, ⟨rfl, rfl⟩⟩ (Keep.refl h0 [])
theorem ef_reqnn1 (m : MethodId) (a : Addr)  : entryFrame m #[(.ref a)] 1 = mkF m 0 #[.val (.ref a)] [] := by first | (simp [entryFrame, mkF, argsToLocals, Value.category]; done) | rfl
def Q_reqnn1 (Z : State) (a : Addr)  (h0 : Heap) (xv : Value) (h : Heap) : Prop := (.ref a) = xv ∧ h0 = h
set_option maxRecDepth 65536 in
set_option maxHeartbeats 40000000 in
theorem c_reqnn1 (l : Launch) {Z : State} {a0 : Array Value} (G : GH Z a0) (a : Addr)  (h0 : Heap) (O0 : Old Z Z.heap.size h0)  : Con false [] l Z (⟨"java/util/Objects", "requireNonNull", "(Ljava/lang/Object;)Ljava/lang/Object;"⟩ : MethodName) jdk_31_method_10_code 1 (some (.object "java/lang/Object")) [] ({ frames := 0, cells := 0, slots := 0, locals := 0 } : Room) #[(.ref a)] h0 [] (rvl (Q_reqnn1 Z a h0)) := by
  refine con_of (a0 := a0) (plainFor_of_name pn3) (fun q => rfl) EW.nil O0 (fun m => ef_reqnn1 m a) ?_
  intro p_ e_ s_ m_ below_ meth_ c_ hby hml hret hlk hnm
  refine go_aload_n (pc' := 1) (hb hby d6_0) rfl rfl rfl ?_
  refine go_nnT (pc' := 12) (hb hby d6_1) (by decide) rfl ?_
  refine go_aload_n (pc' := 13) (hb hby d6_12) rfl rfl rfl ?_
  refine go_areturn hret hlk rfl rfl (hb hby d6_13) (by decide) (by decide) ⟨_, rfl, ⟨rfl, rfl⟩⟩ (Keep.refl h0 [])
theorem ef_kindof (m : MethodId) (y : Int32)  : entryFrame m #[(.int y)] 2 = mkF m 0 #[.val (.int y), .unset] [] := by first | (simp [entryFrame, mkF, argsToLocals, Value.category]; done) | rfl
def Q_kindof (Z : State) (y : Int32)  (h0 : Heap) (xv : Value) (h : Heap) : Prop := ∃ (r : Addr), (.ref r) = xv ∧ h0 = h ∧ Exa Z h r "com/example/hew/hew/Message$Field$Kind"
set_option maxRecDepth 65536 in
set_option maxHeartbeats 40000000 in
theorem c_kindof (l : Launch) {Z : State} {a0 : Array Value} (G : GH Z a0) (y : Int32)  (h0 : Heap) (O0 : Old Z Z.heap.size h0)  : Con false [] l Z (⟨"com/example/hew/hew/FieldIsMapPinLaw", "kindOf", "(I)Lcom/example/hew/hew/Message$Field$Kind;"⟩ : MethodName) method_2_code 2 (some (.object "com/example/hew/hew/Message$Field$Kind")) [] ({ frames := 0, cells := 0, slots := 0, locals := 0 } : Room) #[(.int y)] h0 [] (rvl (Q_kindof Z y h0)) := by
  refine con_of (a0 := a0) (plainFor_of_name pn4) (fun q => rfl) EW.nil O0 (fun m => ef_kindof m y) ?_
  intro p_ e_ s_ m_ below_ meth_ c_ hby hml hret hlk hnm
  refine go_iload_n (pc' := 1) (hb hby d7_0) rfl rfl ?_
  refine go_ldcI (pc' := 3) (v := (2147483647 : Int32)) (wk G 0 rfl) (hb hby d7_1) rfl ?_
  refine go_iand (pc' := 4) (z := (y &&& (2147483647 : Int32))) (hb hby d7_3) rfl rfl ?_
  refine go_iconst (pc' := 5) (v := 3) (hb hby d7_4) rfl rfl ?_
  refine go_irem (pc' := 6) (z := ((y &&& (2147483647 : Int32)) % (3 : Int32))) (hb hby d7_5) rfl (by decide) rfl ?_
  refine go_istore_n (pc' := 7) (ls' := #[.val (.int y), .val (.int ((y &&& (2147483647 : Int32)) % (3 : Int32)))]) (hb hby d7_6) rfl rfl ?_
  refine go_iload_n (pc' := 8) (hb hby d7_7) rfl rfl ?_
  by_cases c1 : ((y &&& (2147483647 : Int32)) % (3 : Int32)) = (0 : Int32)
  · refine go_ifF (pc' := 11) (hb hby d7_8) rfl (XT.i0_ne_f c1) ?_
    refine go_getS (pc' := 14) (wk G 5 rfl) ((se_SCALAR G).1.ext O0.2) (hb hby d7_11) rfl ?_
    have Z2 := (se_SCALAR G).2.ext O0.2
    refine go_areturn hret hlk rfl rfl (hb hby d7_14) (by decide) (by decide) ⟨_, rfl, ⟨(s_SCALAR Z), rfl, rfl, Z2⟩⟩ (Keep.refl h0 [])
  · refine go_ifT (pc' := 15) (hb hby d7_8) (by decide) rfl (XT.i0_ne_t c1) ?_
    refine go_iload_n (pc' := 16) (hb hby d7_15) rfl rfl ?_
    refine go_iconst (pc' := 17) (v := 1) (hb hby d7_16) rfl rfl ?_
    by_cases c3 : ((y &&& (2147483647 : Int32)) % (3 : Int32)) = (1 : Int32)
    · refine go_icF (pc' := 20) (hb hby d7_17) rfl (XT.ii_ne_f c3) ?_
      refine go_getS (pc' := 23) (wk G 148 rfl) ((se_ENUM G).1.ext O0.2) (hb hby d7_20) rfl ?_
      have Z4 := (se_ENUM G).2.ext O0.2
      refine go_areturn hret hlk rfl rfl (hb hby d7_23) (by decide) (by decide) ⟨_, rfl, ⟨(s_ENUM Z), rfl, rfl, Z4⟩⟩ (Keep.refl h0 [])
    · refine go_icT (pc' := 24) (hb hby d7_17) (by decide) rfl (XT.ii_ne_t c3) ?_
      refine go_getS (pc' := 27) (wk G 150 rfl) ((se_MESSAGE G).1.ext O0.2) (hb hby d7_24) rfl ?_
      have Z5 := (se_MESSAGE G).2.ext O0.2
      refine go_areturn hret hlk rfl rfl (hb hby d7_27) (by decide) (by decide) ⟨_, rfl, ⟨(s_MESSAGE Z), rfl, rfl, Z5⟩⟩ (Keep.refl h0 [])
theorem ef_plinit (m : MethodId) (a : Addr) (t : Addr) (q : Int32) (u : Int32)  : entryFrame m #[(.ref a), (.ref t), (.int q), (.int u)] 4 = mkF m 0 #[.val (.ref a), .val (.ref t), .val (.int q), .val (.int u)] [] := by first | (simp [entryFrame, mkF, argsToLocals, Value.category]; done) | rfl
def Q_plinit (Z : State) (a : Addr) (t : Addr) (q : Int32) (u : Int32)  (h0 : Heap) (h : Heap) : Prop := True
set_option maxRecDepth 65536 in
set_option maxHeartbeats 40000000 in
theorem c_plinit (l : Launch) {Z : State} {a0 : Array Value} (G : GH Z a0) (a : Addr) (t : Addr) (q : Int32) (u : Int32)  (h0 : Heap) (O0 : Old Z Z.heap.size h0) (p1 : Exa Z h0 a "com/example/hew/hew/Place") (p2 : Z.heap.size ≤ a) (p3 : Exa Z h0 t "java/lang/String") (p4 : Fld Z h0 a "com/example/hew/hew/Place" "file" "Ljava/lang/String;" .null) (p5 : Fld Z h0 a "com/example/hew/hew/Place" "line" "I" (.int (0 : Int32))) (p6 : Fld Z h0 a "com/example/hew/hew/Place" "column" "I" (.int (0 : Int32))) : Con true EL1 l Z (⟨"com/example/hew/hew/Place", "<init>", "(Ljava/lang/String;II)V"⟩ : MethodName) prog_39_method_1_code 4 none [] ({ frames := 1, cells := 2, slots := 20, locals := 14 } : Room) #[(.ref a), (.ref t), (.int q), (.int u)] h0 [a] (rno (Q_plinit Z a t q u h0)) := by
  refine con_of (a0 := a0) (plainFor_of_name pn5) (fun q => nomatch q) (ew1 G) O0 (fun m => ef_plinit m a t q u) ?_
  intro p_ e_ s_ m_ below_ meth_ c_ hby hml hret hlk hnm
  refine go_aload_n (pc' := 1) (hb hby d8_0) rfl rfl rfl ?_
  refine go_initO (pc' := 4) (Wd := 0) (wk G 58 rfl) (wk G 20 rfl) (wk G 21 rfl) (by rw [hml]; rfl) (by decide) (by decide) (by decide) (hb hby d8_1) rfl ?_
  refine go_aload_n (pc' := 5) (hb hby d8_4) rfl rfl rfl ?_
  refine go_aload_n (pc' := 6) (hb hby d8_5) rfl rfl rfl ?_
  refine go_ldcS (pc' := 8) (cells' := 2) (slots' := 20) (n := 16) rfl (wk G 59 rfl) (wS G) (by decide) (by decide) (hb hby d8_6) rfl rfl rfl (by decide) (by decide) (fun h1 a2 X3 => ?_)
  refine go_old (fun O4 => ?_)
  refine callS0 (cells' := 2) (slots' := 20) (Wd := 1) (argsL := [(.ref t), (.ref a2)]) (rest := [(.ref a)]) (pay_of (a0 := a0) (c_reqnn l G t a2 h1 O4 ) (wk G 65 rfl) (wk G 64 rfl) (by decide) (by decide)) (wk G 62 rfl) (wk G 63 rfl) (wk G 64 rfl) (wk G 65 rfl) (by decide) pd4 rfl rfl (by rw [hml]; rfl) (Nat.le_of_ble_eq_true rfl) rfl rfl (by decide) (by decide) all0 (fun _ _ => sf0) (hb hby d8_8) (k_v (pc' := 11) rfl ?_)
  rintro _ h5 ⟨rfl, rfl⟩ K6
  have K7 : Keep h0 h1 [] := ((Keep.refl h0 []).ext X3)
  have E8 := (p3.keep K7)
  refine go_cast (pc' := 14) (wk G 66 rfl) (Ins.self E8) (hb hby d8_11) rfl ?_
  have F9 := (p4.keep K7 nin0)
  have E10 := (p1.keep K7)
  refine go_putF (pc' := 17) (wk G 67 rfl) Via.refl F9 E10 (Or.inr ⟨(wk G 68 rfl), rfl, hnm⟩) (wk G 53 rfl) (ty := (.object "java/lang/String")) (v' := (.ref t)) (by decide) rfl rfl p2 (Or.inl (by decide)) (hb hby d8_14) rfl (fun h11 W12 => ?_)
  have F13 := Fld.same W12 F9
  refine go_aload_n (pc' := 18) (hb hby d8_17) rfl rfl rfl ?_
  refine go_iload_n (pc' := 19) (hb hby d8_18) rfl rfl ?_
  have F14 := ((p5.ext X3).other W12 (Or.inr (slot_ne (t := .int) (t' := (.object "java/lang/String")) (Or.inr (wk G 70 rfl)) (Or.inr (wk G 68 rfl)) (by decide) (by decide) (by decide))))
  have E15 := (E10.wr W12)
  refine go_putF (pc' := 22) (wk G 69 rfl) Via.refl F14 E15 (Or.inr ⟨(wk G 70 rfl), rfl, hnm⟩) (wk G 53 rfl) (ty := .int) (v' := (.int q)) (by decide) rfl rfl p2 (Or.inl (by decide)) (hb hby d8_19) rfl (fun h16 W17 => ?_)
  have F18 := Fld.same W17 F14
  refine go_aload_n (pc' := 23) (hb hby d8_22) rfl rfl rfl ?_
  refine go_iload_n (pc' := 24) (hb hby d8_23) rfl rfl ?_
  have F19 := (((p6.ext X3).other W12 (Or.inr (slot_ne (t := .int) (t' := (.object "java/lang/String")) (Or.inr (wk G 72 rfl)) (Or.inr (wk G 68 rfl)) (by decide) (by decide) (by decide)))).other W17 (Or.inr (slot_ne (t := .int) (t' := .int) (Or.inr (wk G 72 rfl)) (Or.inr (wk G 70 rfl)) (by decide) (by decide) (by decide))))
  have E20 := (E15.wr W17)
  refine go_putF (pc' := 27) (wk G 71 rfl) Via.refl F19 E20 (Or.inr ⟨(wk G 72 rfl), rfl, hnm⟩) (wk G 53 rfl) (ty := .int) (v' := (.int u)) (by decide) rfl rfl p2 (Or.inl (by decide)) (hb hby d8_24) rfl (fun h21 W22 => ?_)
  have F23 := Fld.same W22 F19
  have K24 : Keep h0 h1 [a] := ((Keep.refl h0 [a]).ext X3)
  have K25 : Keep h0 h11 [a] := (K24.wr W12 (Or.inl (by simp)))
  have K26 : Keep h0 h16 [a] := (K25.wr W17 (Or.inl (by simp)))
  have K27 : Keep h0 h21 [a] := (K26.wr W22 (Or.inl (by simp)))
  refine go_return hret hlk (hb hby d8_27) (by decide) (by decide) ⟨rfl, trivial⟩ K27
theorem ef_abscol (m : MethodId) (a : Addr)  : entryFrame m #[(.ref a)] 1 = mkF m 0 #[.val (.ref a)] [] := by first | (simp [entryFrame, mkF, argsToLocals, Value.category]; done) | rfl
def Q_abscol (Z : State) (a : Addr)  (h0 : Heap) (h : Heap) : Prop := h0 = h
set_option maxRecDepth 65536 in
set_option maxHeartbeats 40000000 in
theorem c_abscol (l : Launch) {Z : State} {a0 : Array Value} (G : GH Z a0) (a : Addr)  (h0 : Heap) (O0 : Old Z Z.heap.size h0)  : Con false [] l Z (⟨"java/util/AbstractCollection", "<init>", "()V"⟩ : MethodName) jdk_22_method_1_code 1 none [] ({ frames := 1, cells := 0, slots := 0, locals := 12 } : Room) #[(.ref a)] h0 [] (rno (Q_abscol Z a h0)) := by
  refine con_of (a0 := a0) (plainFor_of_name pn6) (fun q => rfl) EW.nil O0 (fun m => ef_abscol m a) ?_
  intro p_ e_ s_ m_ below_ meth_ c_ hby hml hret hlk hnm
  refine go_aload_n (pc' := 1) (hb hby d9_0) rfl rfl rfl ?_
  refine go_initO (pc' := 4) (Wd := 0) (wk G 126 rfl) (wk G 20 rfl) (wk G 21 rfl) (by rw [hml]; rfl) (by decide) (by decide) (by decide) (hb hby d9_1) rfl ?_
  refine go_return hret hlk (hb hby d9_4) (by decide) (by decide) ⟨rfl, rfl⟩ (Keep.refl h0 [])
theorem ef_absimcol (m : MethodId) (a : Addr)  : entryFrame m #[(.ref a)] 1 = mkF m 0 #[.val (.ref a)] [] := by first | (simp [entryFrame, mkF, argsToLocals, Value.category]; done) | rfl
def Q_absimcol (Z : State) (a : Addr)  (h0 : Heap) (h : Heap) : Prop := h0 = h
set_option maxRecDepth 65536 in
set_option maxHeartbeats 40000000 in
theorem c_absimcol (l : Launch) {Z : State} {a0 : Array Value} (G : GH Z a0) (a : Addr)  (h0 : Heap) (O0 : Old Z Z.heap.size h0)  : Con false [] l Z (⟨"java/util/ImmutableCollections$AbstractImmutableCollection", "<init>", "()V"⟩ : MethodName) jdk_47_method_1_code 1 none [] ({ frames := 2, cells := 0, slots := 0, locals := 24 } : Room) #[(.ref a)] h0 [] (rno (Q_absimcol Z a h0)) := by
  refine con_of (a0 := a0) (plainFor_of_name pn7) (fun q => rfl) EW.nil O0 (fun m => ef_absimcol m a) ?_
  intro p_ e_ s_ m_ below_ meth_ c_ hby hml hret hlk hnm
  refine go_aload_n (pc' := 1) (hb hby d10_0) rfl rfl rfl ?_
  refine callI0 (cells' := 0) (slots' := 0) (Wd := 0) (argsL := []) (rest := []) (pay_of (a0 := a0) (c_abscol l G a h0 O0 ) (wk G 125 rfl) (wk G 124 rfl) (by decide) (by decide)) rfl (wk G 120 rfl) (wk G 121 rfl) (wk G 125 rfl) (by decide) pd5 rfl rfl (by rw [hml]; rfl) (Nat.le_of_ble_eq_true rfl) rfl rfl (by decide) (by decide) all0 (fun _ _ => sf0) (hb hby d10_1) (k_n (pc' := 4) rfl ?_)
  rintro  h1 rfl K2
  refine go_return hret hlk (hb hby d10_4) (by decide) (by decide) ⟨rfl, rfl⟩ (Keep.refl h0 [])
theorem ef_absimlist (m : MethodId) (a : Addr)  : entryFrame m #[(.ref a)] 1 = mkF m 0 #[.val (.ref a)] [] := by first | (simp [entryFrame, mkF, argsToLocals, Value.category]; done) | rfl
def Q_absimlist (Z : State) (a : Addr)  (h0 : Heap) (h : Heap) : Prop := h0 = h
set_option maxRecDepth 65536 in
set_option maxHeartbeats 40000000 in
theorem c_absimlist (l : Launch) {Z : State} {a0 : Array Value} (G : GH Z a0) (a : Addr)  (h0 : Heap) (O0 : Old Z Z.heap.size h0)  : Con false [] l Z (⟨"java/util/ImmutableCollections$AbstractImmutableList", "<init>", "()V"⟩ : MethodName) jdk_46_method_1_code 1 none [] ({ frames := 3, cells := 0, slots := 0, locals := 36 } : Room) #[(.ref a)] h0 [] (rno (Q_absimlist Z a h0)) := by
  refine con_of (a0 := a0) (plainFor_of_name pn8) (fun q => rfl) EW.nil O0 (fun m => ef_absimlist m a) ?_
  intro p_ e_ s_ m_ below_ meth_ c_ hby hml hret hlk hnm
  refine go_aload_n (pc' := 1) (hb hby d11_0) rfl rfl rfl ?_
  refine callI0 (cells' := 0) (slots' := 0) (Wd := 0) (argsL := []) (rest := []) (pay_of (a0 := a0) (c_absimcol l G a h0 O0 ) (wk G 119 rfl) (wk G 118 rfl) (by decide) (by decide)) rfl (wk G 114 rfl) (wk G 115 rfl) (wk G 119 rfl) (by decide) pd5 rfl rfl (by rw [hml]; rfl) (Nat.le_of_ble_eq_true rfl) rfl rfl (by decide) (by decide) all0 (fun _ _ => sf0) (hb hby d11_1) (k_n (pc' := 4) rfl ?_)
  rintro  h1 rfl K2
  refine go_return hret hlk (hb hby d11_4) (by decide) (by decide) ⟨rfl, rfl⟩ (Keep.refl h0 [])
theorem ef_l12init (m : MethodId) (a : Addr) (q : Addr)  : entryFrame m #[(.ref a), (.ref q)] 2 = mkF m 0 #[.val (.ref a), .val (.ref q)] [] := by first | (simp [entryFrame, mkF, argsToLocals, Value.category]; done) | rfl
def Q_l12init (Z : State) (a : Addr) (q : Addr)  (h0 : Heap) (h : Heap) : Prop := True
set_option maxRecDepth 65536 in
set_option maxHeartbeats 40000000 in
theorem c_l12init (l : Launch) {Z : State} {a0 : Array Value} (G : GH Z a0) (a : Addr) (q : Addr)  (h0 : Heap) (O0 : Old Z Z.heap.size h0) (p1 : Exa Z h0 a "java/util/ImmutableCollections$List12") (p2 : Z.heap.size ≤ a) (p3 : Fld Z h0 a "java/util/ImmutableCollections$List12" "e0" "Ljava/lang/Object;" .null) (p4 : Fld Z h0 a "java/util/ImmutableCollections$List12" "e1" "Ljava/lang/Object;" .null) : Con false [] l Z (⟨"java/util/ImmutableCollections$List12", "<init>", "(Ljava/lang/Object;)V"⟩ : MethodName) jdk_44_method_1_code 2 none [] ({ frames := 4, cells := 0, slots := 0, locals := 48 } : Room) #[(.ref a), (.ref q)] h0 [a] (rno (Q_l12init Z a q h0)) := by
  refine con_of (a0 := a0) (plainFor_of_name pn9) (fun q => rfl) EW.nil O0 (fun m => ef_l12init m a q) ?_
  intro p_ e_ s_ m_ below_ meth_ c_ hby hml hret hlk hnm
  refine go_aload_n (pc' := 1) (hb hby d12_0) rfl rfl rfl ?_
  refine callI0 (cells' := 0) (slots' := 0) (Wd := 0) (argsL := []) (rest := []) (pay_of (a0 := a0) (c_absimlist l G a h0 O0 ) (wk G 113 rfl) (wk G 112 rfl) (by decide) (by decide)) rfl (wk G 108 rfl) (wk G 109 rfl) (wk G 113 rfl) (by decide) pd5 rfl rfl (by rw [hml]; rfl) (Nat.le_of_ble_eq_true rfl) rfl rfl (by decide) (by decide) all0 (fun _ _ => sf0) (hb hby d12_1) (k_n (pc' := 4) rfl ?_)
  rintro  h1 rfl K2
  refine go_aload_n (pc' := 5) (hb hby d12_4) rfl rfl rfl ?_
  refine go_aload_n (pc' := 6) (hb hby d12_5) rfl rfl rfl ?_
  refine callS0 (cells' := 0) (slots' := 0) (Wd := 1) (argsL := [(.ref q)]) (rest := [(.ref a)]) (pay_of (a0 := a0) (c_reqnn1 l G q h0 O0 ) (wk G 129 rfl) (wk G 64 rfl) (by decide) (by decide)) (wk G 127 rfl) (wk G 128 rfl) (wk G 64 rfl) (wk G 129 rfl) (by decide) pd6 rfl rfl (by rw [hml]; rfl) (Nat.le_of_ble_eq_true rfl) rfl rfl (by decide) (by decide) all0 (fun _ _ => sf0) (hb hby d12_6) (k_v (pc' := 9) rfl ?_)
  rintro _ h3 ⟨rfl, rfl⟩ K4
  refine go_putF (pc' := 12) (wk G 130 rfl) Via.refl p3 p1 (Or.inr ⟨(wk G 131 rfl), rfl, hnm⟩) (wk G 102 rfl) (ty := (.object "java/lang/Object")) (v' := (.ref q)) (by decide) rfl rfl p2 (Or.inr rfl) (hb hby d12_9) rfl (fun h5 W6 => ?_)
  have F7 := Fld.same W6 p3
  refine go_aload_n (pc' := 13) (hb hby d12_12) rfl rfl rfl ?_
  refine go_old (fun O8 => ?_)
  refine go_getSN (pc' := 16) (wk G 132 rfl) ((st_EMPTY G).ext O8.2) (hb hby d12_13) rfl ?_
  have F9 := (p4.other W6 (Or.inr (slot_ne (t := (.object "java/lang/Object")) (t' := (.object "java/lang/Object")) (Or.inr (wk G 135 rfl)) (Or.inr (wk G 131 rfl)) (by decide) (by decide) (by decide))))
  have E10 := (p1.wr W6)
  refine go_putF (pc' := 19) (wk G 134 rfl) Via.refl F9 E10 (Or.inr ⟨(wk G 135 rfl), rfl, hnm⟩) (wk G 102 rfl) (ty := (.object "java/lang/Object")) (v' := (.ref (s_EMPTY Z))) (by decide) rfl rfl p2 (Or.inr rfl) (hb hby d12_16) rfl (fun h11 W12 => ?_)
  have F13 := Fld.same W12 F9
  have K14 : Keep h0 h5 [a] := ((Keep.refl h0 [a]).wr W6 (Or.inl (by simp)))
  have K15 : Keep h0 h11 [a] := (K14.wr W12 (Or.inl (by simp)))
  refine go_return hret hlk (hb hby d12_19) (by decide) (by decide) ⟨rfl, trivial⟩ K15
theorem ef_listof (m : MethodId) (q : Addr)  : entryFrame m #[(.ref q)] 1 = mkF m 0 #[.val (.ref q)] [] := by first | (simp [entryFrame, mkF, argsToLocals, Value.category]; done) | rfl
def Q_listof (Z : State) (q : Addr)  (h0 : Heap) (xv : Value) (h : Heap) : Prop := ∃ (r : Addr), (.ref r) = xv
set_option maxRecDepth 65536 in
set_option maxHeartbeats 40000000 in
theorem c_listof (l : Launch) {Z : State} {a0 : Array Value} (G : GH Z a0) (q : Addr)  (h0 : Heap) (O0 : Old Z Z.heap.size h0)  : Con false [] l Z (⟨"java/util/List", "of", "(Ljava/lang/Object;)Ljava/util/List;"⟩ : MethodName) jdk_40_method_37_code 1 (some (.object "java/util/List")) [] ({ frames := 5, cells := 1, slots := 2, locals := 62 } : Room) #[(.ref q)] h0 [] (rvl (Q_listof Z q h0)) := by
  refine con_of (a0 := a0) (plainFor_of_name pn10) (fun q => rfl) EW.nil O0 (fun m => ef_listof m q) ?_
  intro p_ e_ s_ m_ below_ meth_ c_ hby hml hret hlk hnm
  refine go_newO (pc' := 3) (cells' := 1) (slots' := 2) (wk G 101 rfl) (wk G 102 rfl) (wk G 103 rfl) (hb hby d13_0) rfl rfl rfl (by decide) (by decide) (fun h1 a2 g3 X4 E5 D6 U7 => ?_)
  refine go_dup (pc' := 4) (hb hby d13_3) rfl rfl ?_
  refine go_aload_n (pc' := 5) (hb hby d13_4) rfl rfl rfl ?_
  have F8 := D6 (Or.inr (wk G 131 rfl)) (ty := (.object "java/lang/Object")) (by decide)
  have F9 := D6 (Or.inr (wk G 135 rfl)) (ty := (.object "java/lang/Object")) (by decide)
  refine go_old (fun O10 => ?_)
  refine callI0 (cells' := 1) (slots' := 2) (Wd := 1) (argsL := [(.ref q)]) (rest := [(.ref a2)]) (pay_of (a0 := a0) (c_l12init l G a2 q h1 O10 E5 (Nat.le_trans O0.2.1 (Nat.le_of_eq g3)) F8 F9) (wk G 107 rfl) (wk G 103 rfl) (by decide) (by decide)) rfl (wk G 104 rfl) (wk G 105 rfl) (wk G 107 rfl) (by decide) pd7 rfl rfl (by rw [hml]; rfl) (Nat.le_of_ble_eq_true rfl) rfl rfl (by decide) (by decide) (allS (Nat.le_trans O0.2.1 (Nat.le_of_eq g3)) all0) (fun _ hal => (sfS safe_nil sf0)) (hb hby d13_5) (k_n (pc' := 8) rfl ?_)
  rintro  h11 - K12
  have K13 : Keep h0 h1 [] := ((Keep.refl h0 []).ext X4)
  have K14 : Keep h0 h11 [] := (K13.trans K12 (allS (Or.inr (Nat.le_of_eq g3)) all0))
  refine go_areturn hret hlk rfl rfl (hb hby d13_8) (by decide) (by decide) ⟨_, rfl, ⟨a2, rfl⟩⟩ K14
theorem ef_abslist (m : MethodId) (a : Addr)  : entryFrame m #[(.ref a)] 1 = mkF m 0 #[.val (.ref a)] [] := by first | (simp [entryFrame, mkF, argsToLocals, Value.category]; done) | rfl
def Q_abslist (Z : State) (a : Addr)  (h0 : Heap) (h : Heap) : Prop := Fld Z h a "java/util/AbstractList" "modCount" "I" (.int (0 : Int32)) ∧ Fld Z h a "java/util/ArrayList" "elementData" "[Ljava/lang/Object;" .null ∧ Fld Z h a "java/util/ArrayList" "size" "I" (.int (0 : Int32))
set_option maxRecDepth 65536 in
set_option maxHeartbeats 40000000 in
theorem c_abslist (l : Launch) {Z : State} {a0 : Array Value} (G : GH Z a0) (a : Addr)  (h0 : Heap) (O0 : Old Z Z.heap.size h0) (p1 : Exa Z h0 a "java/util/ArrayList") (p2 : Z.heap.size ≤ a) (p3 : Fld Z h0 a "java/util/AbstractList" "modCount" "I" (.int (0 : Int32))) (p4 : Fld Z h0 a "java/util/ArrayList" "elementData" "[Ljava/lang/Object;" .null) (p5 : Fld Z h0 a "java/util/ArrayList" "size" "I" (.int (0 : Int32))) : Con false [] l Z (⟨"java/util/AbstractList", "<init>", "()V"⟩ : MethodName) jdk_39_method_1_code 1 none [] ({ frames := 2, cells := 0, slots := 0, locals := 24 } : Room) #[(.ref a)] h0 [a] (rno (Q_abslist Z a h0)) := by
  refine con_of (a0 := a0) (plainFor_of_name pn11) (fun q => rfl) EW.nil O0 (fun m => ef_abslist m a) ?_
  intro p_ e_ s_ m_ below_ meth_ c_ hby hml hret hlk hnm
  refine go_aload_n (pc' := 1) (hb hby d14_0) rfl rfl rfl ?_
  refine callI0 (cells' := 0) (slots' := 0) (Wd := 0) (argsL := []) (rest := []) (pay_of (a0 := a0) (c_abscol l G a h0 O0 ) (wk G 125 rfl) (wk G 124 rfl) (by decide) (by decide)) rfl (wk G 164 rfl) (wk G 121 rfl) (wk G 125 rfl) (by decide) pd5 rfl rfl (by rw [hml]; rfl) (Nat.le_of_ble_eq_true rfl) rfl rfl (by decide) (by decide) all0 (fun _ _ => sf0) (hb hby d14_1) (k_n (pc' := 4) rfl ?_)
  rintro  h1 rfl K2
  refine go_aload_n (pc' := 5) (hb hby d14_4) rfl rfl rfl ?_
  refine go_iconst (pc' := 6) (v := 0) (hb hby d14_5) rfl rfl ?_
  refine go_putF (pc' := 9) (wk G 166 rfl) Via.refl p3 p1 (Or.inl (wk G 167 rfl)) (wk G 153 rfl) (ty := .int) (v' := (.int (0 : Int32))) (by decide) rfl rfl p2 (Or.inr rfl) (hb hby d14_6) rfl (fun h3 W4 => ?_)
  have F5 := Fld.same W4 p3
  have K6 : Keep h0 h3 [a] := ((Keep.refl h0 [a]).wr W4 (Or.inl (by simp)))
  have F7 := (p4.other W4 (Or.inr (slot_ne (t := (.array (.object "java/lang/Object"))) (t' := .int) (Or.inl (wk G 170 rfl)) (Or.inl (wk G 167 rfl)) (by decide) (by decide) (by decide))))
  have F8 := (p5.other W4 (Or.inr (slot_ne (t := .int) (t' := .int) (Or.inl (wk G 179 rfl)) (Or.inl (wk G 167 rfl)) (by decide) (by decide) (by decide))))
  refine go_return hret hlk (hb hby d14_9) (by decide) (by decide) ⟨rfl, ⟨F5, F7, F8⟩⟩ K6
theorem ef_alinit (m : MethodId) (a : Addr)  : entryFrame m #[(.ref a)] 1 = mkF m 0 #[.val (.ref a)] [] := by first | (simp [entryFrame, mkF, argsToLocals, Value.category]; done) | rfl
def Q_alinit (Z : State) (a : Addr)  (h0 : Heap) (h : Heap) : Prop := Fld Z h a "java/util/AbstractList" "modCount" "I" (.int (0 : Int32)) ∧ Fld Z h a "java/util/ArrayList" "elementData" "[Ljava/lang/Object;" (.ref (s_DEF Z)) ∧ Fld Z h a "java/util/ArrayList" "size" "I" (.int (0 : Int32))
set_option maxRecDepth 65536 in
set_option maxHeartbeats 40000000 in
theorem c_alinit (l : Launch) {Z : State} {a0 : Array Value} (G : GH Z a0) (a : Addr)  (h0 : Heap) (O0 : Old Z Z.heap.size h0) (p1 : Exa Z h0 a "java/util/ArrayList") (p2 : Z.heap.size ≤ a) (p3 : Fld Z h0 a "java/util/AbstractList" "modCount" "I" (.int (0 : Int32))) (p4 : Fld Z h0 a "java/util/ArrayList" "elementData" "[Ljava/lang/Object;" .null) (p5 : Fld Z h0 a "java/util/ArrayList" "size" "I" (.int (0 : Int32))) : Con false [] l Z (⟨"java/util/ArrayList", "<init>", "()V"⟩ : MethodName) jdk_38_method_2_code 1 none [] ({ frames := 3, cells := 0, slots := 0, locals := 36 } : Room) #[(.ref a)] h0 [a] (rno (Q_alinit Z a h0)) := by
  refine con_of (a0 := a0) (plainFor_of_name pn12) (fun q => rfl) EW.nil O0 (fun m => ef_alinit m a) ?_
  intro p_ e_ s_ m_ below_ meth_ c_ hby hml hret hlk hnm
  refine go_aload_n (pc' := 1) (hb hby d15_0) rfl rfl rfl ?_
  refine callI0 (cells' := 0) (slots' := 0) (Wd := 0) (argsL := []) (rest := []) (pay_of (a0 := a0) (c_abslist l G a h0 O0 p1 p2 p3 p4 p5) (wk G 163 rfl) (wk G 162 rfl) (by decide) (by decide)) rfl (wk G 158 rfl) (wk G 159 rfl) (wk G 163 rfl) (by decide) pd5 rfl rfl (by rw [hml]; rfl) (Nat.le_of_ble_eq_true rfl) rfl rfl (by decide) (by decide) (allS p2 all0) (fun _ hal => (sfS safe_nil sf0)) (hb hby d15_1) (k_n (pc' := 4) rfl ?_)
  rintro  h1 ⟨f3, f4, f5⟩ K2
  refine go_aload_n (pc' := 5) (hb hby d15_4) rfl rfl rfl ?_
  refine go_old (fun O6 => ?_)
  refine go_getS (pc' := 8) (wk G 168 rfl) ((st_DEF G).ext O6.2) (hb hby d15_5) rfl ?_
  have E7 := (p1.keep K2)
  refine go_putF (pc' := 11) (wk G 169 rfl) Via.refl f4 E7 (Or.inl (wk G 170 rfl)) (wk G 153 rfl) (ty := (.array (.object "java/lang/Object"))) (v' := (.ref (s_DEF Z))) (by decide) rfl rfl p2 (Or.inr rfl) (hb hby d15_8) rfl (fun h8 W9 => ?_)
  have F10 := Fld.same W9 f4
  have K11 : Keep h0 h1 [a] := ((Keep.refl h0 [a]).trans K2 (allS (Or.inl (by simp)) all0))
  have K12 : Keep h0 h8 [a] := (K11.wr W9 (Or.inl (by simp)))
  have F13 := (f3.other W9 (Or.inr (slot_ne (t := .int) (t' := (.array (.object "java/lang/Object"))) (Or.inl (wk G 167 rfl)) (Or.inl (wk G 170 rfl)) (by decide) (by decide) (by decide))))
  have F14 := (f5.other W9 (Or.inr (slot_ne (t := .int) (t' := (.array (.object "java/lang/Object"))) (Or.inl (wk G 179 rfl)) (Or.inl (wk G 170 rfl)) (by decide) (by decide) (by decide))))
  refine go_return hret hlk (hb hby d15_11) (by decide) (by decide) ⟨rfl, ⟨F13, F10, F14⟩⟩ K12
theorem ef_max101 (m : MethodId)   : entryFrame m #[(.int (10 : Int32)), (.int (1 : Int32))] 2 = mkF m 0 #[.val (.int (10 : Int32)), .val (.int (1 : Int32))] [] := by first | (simp [entryFrame, mkF, argsToLocals, Value.category]; done) | rfl
def Q_max101 (Z : State)   (h0 : Heap) (xv : Value) (h : Heap) : Prop := (.int (10 : Int32)) = xv ∧ h0 = h
set_option maxRecDepth 65536 in
set_option maxHeartbeats 40000000 in
theorem c_max101 (l : Launch) {Z : State} {a0 : Array Value} (G : GH Z a0)   (h0 : Heap) (O0 : Old Z Z.heap.size h0)  : Con false [] l Z (⟨"java/lang/Math", "max", "(II)I"⟩ : MethodName) jdk_29_method_65_code 2 (some .int) [] ({ frames := 0, cells := 0, slots := 0, locals := 0 } : Room) #[(.int (10 : Int32)), (.int (1 : Int32))] h0 [] (rvl (Q_max101 Z h0)) := by
  refine con_of (a0 := a0) (Jvm.Free.JP.mathPlain rfl (by decide)) (fun q => rfl) EW.nil O0 (fun m => ef_max101 m ) ?_
  intro p_ e_ s_ m_ below_ meth_ c_ hby hml hret hlk hnm
  refine go_iload_n (pc' := 1) (hb hby d16_0) rfl rfl ?_
  refine go_iload_n (pc' := 2) (hb hby d16_1) rfl rfl ?_
  refine go_icF (pc' := 5) (hb hby d16_2) rfl (by decide) ?_
  refine go_iload_n (pc' := 6) (hb hby d16_5) rfl rfl ?_
  refine go_goto (pc' := 10) (hb hby d16_6) (by decide) rfl ?_
  refine go_ireturn hret hlk rfl (by simp) (hb hby d16_10) (by decide) (by decide) ⟨_, rfl, ⟨rfl, rfl⟩⟩ (Keep.refl h0 [])
theorem ef_growi (m : MethodId) (a : Addr)  : entryFrame m #[(.ref a), (.int (1 : Int32))] 4 = mkF m 0 #[.val (.ref a), .val (.int (1 : Int32)), .unset, .unset] [] := by first | (simp [entryFrame, mkF, argsToLocals, Value.category]; done) | rfl
def Q_growi (Z : State) (a : Addr)  (h0 : Heap) (xv : Value) (h : Heap) : Prop := ∃ (r : Addr) (k : ClassId), (.ref r) = xv ∧ h0.size ≤ r ∧ Fld Z h a "java/util/ArrayList" "elementData" "[Ljava/lang/Object;" (.ref r) ∧ Fld Z h a "java/util/ArrayList" "size" "I" (.int (0 : Int32)) ∧ Fld Z h a "java/util/AbstractList" "modCount" "I" (.int (1 : Int32)) ∧ Arv Z h r k (.object "java/lang/Object") (10 : Int32) [.null, .null, .null, .null, .null, .null, .null, .null, .null, .null] (.null) ∧ Ovr Z k "java/lang/Object"
set_option maxRecDepth 65536 in
set_option maxHeartbeats 40000000 in
theorem c_growi (l : Launch) {Z : State} {a0 : Array Value} (G : GH Z a0) (a : Addr)  (h0 : Heap) (O0 : Old Z Z.heap.size h0) (p1 : Exa Z h0 a "java/util/ArrayList") (p2 : Z.heap.size ≤ a) (p3 : Fld Z h0 a "java/util/ArrayList" "elementData" "[Ljava/lang/Object;" (.ref (s_DEF Z))) (p4 : Fld Z h0 a "java/util/ArrayList" "size" "I" (.int (0 : Int32))) (p5 : Fld Z h0 a "java/util/AbstractList" "modCount" "I" (.int (1 : Int32))) : Con false [] l Z (⟨"java/util/ArrayList", "grow", "(I)[Ljava/lang/Object;"⟩ : MethodName) jdk_38_method_6_code 4 (some (.array (.object "java/lang/Object"))) [] ({ frames := 1, cells := 1, slots := 10, locals := 14 } : Room) #[(.ref a), (.int (1 : Int32))] h0 [a] (rvl (Q_growi Z a h0)) := by
  refine con_of (a0 := a0) (plainFor_of_name pn12) (fun q => rfl) EW.nil O0 (fun m => ef_growi m a) ?_
  intro p_ e_ s_ m_ below_ meth_ c_ hby hml hret hlk hnm
  obtain ⟨k1, A2⟩ := ar_DEF G
  refine go_aload_n (pc' := 1) (hb hby d17_0) rfl rfl rfl ?_
  refine go_getF (pc' := 4) (wk G 169 rfl) Via.refl p3 (hb hby d17_1) rfl ?_
  have Z3 := A2.ext O0.2
  refine go_arraylength (pc' := 5) Z3 (hb hby d17_4) rfl ?_
  refine go_istore_n (pc' := 6) (ls' := #[.val (.ref a), .val (.int (1 : Int32)), .val (.int (0 : Int32)), .unset]) (hb hby d17_5) rfl rfl ?_
  refine go_iload_n (pc' := 7) (hb hby d17_6) rfl rfl ?_
  refine go_ifF (pc' := 10) (hb hby d17_7) rfl (by decide) ?_
  refine go_aload_n (pc' := 11) (hb hby d17_10) rfl rfl rfl ?_
  refine go_getF (pc' := 14) (wk G 169 rfl) Via.refl p3 (hb hby d17_11) rfl ?_
  refine go_getS (pc' := 17) (wk G 168 rfl) ((st_DEF G).ext O0.2) (hb hby d17_14) rfl ?_
  refine go_acT (pc' := 45) (hb hby d17_17) (by decide) rfl rfl rfl (XT.aa_eq_t rfl) ?_
  refine go_aload_n (pc' := 46) (hb hby d17_45) rfl rfl rfl ?_
  refine go_bipush (pc' := 48) (v := 10) (hb hby d17_46) rfl rfl ?_
  refine go_iload_n (pc' := 49) (hb hby d17_48) rfl rfl ?_
  refine callS0 (cells' := 0) (slots' := 0) (Wd := 1) (argsL := [(.int (10 : Int32)), (.int (1 : Int32))]) (rest := [(.ref a)]) (pay_of (a0 := a0) (c_max101 l G  h0 O0 ) (wk G 198 rfl) (wk G 197 rfl) (by decide) (by decide)) (wk G 195 rfl) (wk G 196 rfl) (wk G 197 rfl) (wk G 198 rfl) (by decide) pd8 rfl rfl (by rw [hml]; rfl) (Nat.le_of_ble_eq_true rfl) rfl rfl (by decide) (by decide) all0 (fun _ _ => sf0) (hb hby d17_49) (k_v (pc' := 52) rfl ?_)
  rintro _ h4 ⟨rfl, rfl⟩ K5
  refine go_newR (pc' := 55) (cells' := 1) (slots' := 10) (cap := 10) (vs := [.null, .null, .null, .null, .null, .null, .null, .null, .null, .null]) (wk G 199 rfl) (wk G 200 rfl) (hb hby d17_52) rfl (by decide) rfl (by decide) rfl rfl rfl (by decide) (by decide) (fun h6 a7 k11 g8 X9 A10 V12 => ?_)
  refine go_dup_x1 (pc' := 56) (hb hby d17_55) rfl rfl rfl ?_
  have K13 : Keep h0 h6 [] := ((Keep.refl h0 []).ext X9)
  have F14 := (p3.keep K13 nin0)
  have E15 := (p1.keep K13)
  refine go_putF (pc' := 59) (wk G 169 rfl) Via.refl F14 E15 (Or.inl (wk G 170 rfl)) (wk G 153 rfl) (ty := (.array (.object "java/lang/Object"))) (v' := (.ref a7)) (by decide) rfl rfl p2 (Or.inr rfl) (hb hby d17_56) rfl (fun h16 W17 => ?_)
  have F18 := Fld.same W17 F14
  have K19 : Keep h0 h6 [a] := ((Keep.refl h0 [a]).ext X9)
  have K20 : Keep h0 h16 [a] := (K19.wr W17 (Or.inl (by simp)))
  have F21 := ((p4.ext X9).other W17 (Or.inr (slot_ne (t := .int) (t' := (.array (.object "java/lang/Object"))) (Or.inl (wk G 179 rfl)) (Or.inl (wk G 170 rfl)) (by decide) (by decide) (by decide))))
  have F22 := ((p5.ext X9).other W17 (Or.inr (slot_ne (t := .int) (t' := (.array (.object "java/lang/Object"))) (Or.inl (wk G 167 rfl)) (Or.inl (wk G 170 rfl)) (by decide) (by decide) (by decide))))
  have A23 := (A10.other W17 (Nat.ne_of_gt (Nat.lt_of_lt_of_le p1.lt (Nat.le_of_eq g8))))
  refine go_areturn hret hlk rfl rfl (hb hby d17_59) (by decide) (by decide) ⟨_, rfl, ⟨a7, k11, rfl, (Nat.le_of_eq g8), F18, F21, F22, A23, V12⟩⟩ K20
theorem ef_grow (m : MethodId) (a : Addr)  : entryFrame m #[(.ref a)] 1 = mkF m 0 #[.val (.ref a)] [] := by first | (simp [entryFrame, mkF, argsToLocals, Value.category]; done) | rfl
def Q_grow (Z : State) (a : Addr)  (h0 : Heap) (xv : Value) (h : Heap) : Prop := ∃ (r : Addr) (k : ClassId), (.ref r) = xv ∧ h0.size ≤ r ∧ Fld Z h a "java/util/ArrayList" "elementData" "[Ljava/lang/Object;" (.ref r) ∧ Fld Z h a "java/util/ArrayList" "size" "I" (.int (0 : Int32)) ∧ Fld Z h a "java/util/AbstractList" "modCount" "I" (.int (1 : Int32)) ∧ Arv Z h r k (.object "java/lang/Object") (10 : Int32) [.null, .null, .null, .null, .null, .null, .null, .null, .null, .null] (.null) ∧ Ovr Z k "java/lang/Object"
set_option maxRecDepth 65536 in
set_option maxHeartbeats 40000000 in
theorem c_grow (l : Launch) {Z : State} {a0 : Array Value} (G : GH Z a0) (a : Addr)  (h0 : Heap) (O0 : Old Z Z.heap.size h0) (p1 : Exa Z h0 a "java/util/ArrayList") (p2 : Z.heap.size ≤ a) (p3 : Fld Z h0 a "java/util/ArrayList" "elementData" "[Ljava/lang/Object;" (.ref (s_DEF Z))) (p4 : Fld Z h0 a "java/util/ArrayList" "size" "I" (.int (0 : Int32))) (p5 : Fld Z h0 a "java/util/AbstractList" "modCount" "I" (.int (1 : Int32))) : Con false [] l Z (⟨"java/util/ArrayList", "grow", "()[Ljava/lang/Object;"⟩ : MethodName) jdk_38_method_7_code 1 (some (.array (.object "java/lang/Object"))) [] ({ frames := 2, cells := 1, slots := 10, locals := 29 } : Room) #[(.ref a)] h0 [a] (rvl (Q_grow Z a h0)) := by
  refine con_of (a0 := a0) (plainFor_of_name pn12) (fun q => rfl) EW.nil O0 (fun m => ef_grow m a) ?_
  intro p_ e_ s_ m_ below_ meth_ c_ hby hml hret hlk hnm
  refine go_aload_n (pc' := 1) (hb hby d18_0) rfl rfl rfl ?_
  refine go_aload_n (pc' := 2) (hb hby d18_1) rfl rfl rfl ?_
  refine go_getF (pc' := 5) (wk G 178 rfl) Via.refl p4 (hb hby d18_2) rfl ?_
  refine go_iconst (pc' := 6) (v := 1) (hb hby d18_5) rfl rfl ?_
  refine go_iadd (pc' := 7) (z := (1 : Int32)) (hb hby d18_6) rfl (by decide) ?_
  refine callP0 (cells' := 1) (slots' := 10) (Wd := 0) (argsL := [(.int (1 : Int32))]) (rest := []) (pay_of (a0 := a0) (c_growi l G a h0 O0 p1 p2 p3 p4 p5) (wk G 194 rfl) (wk G 154 rfl) (by decide) (by decide)) p1 (wk G 190 rfl) (wk G 191 rfl) (wk G 193 rfl) (wk G 192 rfl) (wk G 194 rfl) (by decide) pd9 rfl rfl (by rw [hml]; rfl) (Nat.le_of_ble_eq_true rfl) rfl rfl (by decide) (by decide) (allS p2 all0) (fun _ hal => (sfS safe_nil sf0)) (hb hby d18_7) (k_v (pc' := 10) rfl ?_)
  rintro _ h1 ⟨r3, r4, rfl, f5, f6, f7, f8, f9, f10⟩ K2
  have K11 : Keep h0 h1 [a] := ((Keep.refl h0 [a]).trans K2 (allS (Or.inl (by simp)) all0))
  refine go_areturn hret hlk rfl rfl (hb hby d18_10) (by decide) (by decide) ⟨_, rfl, ⟨r3, r4, rfl, f5, f6, f7, f8, f9, f10⟩⟩ K11
theorem ef_add3a (m : MethodId) (a : Addr) (q : Addr)  : entryFrame m #[(.ref a), (.ref q), (.ref (s_DEF Z)), (.int (0 : Int32))] 4 = mkF m 0 #[.val (.ref a), .val (.ref q), .val (.ref (s_DEF Z)), .val (.int (0 : Int32))] [] := by first | (simp [entryFrame, mkF, argsToLocals, Value.category]; done) | rfl
def Q_add3a (Z : State) (a : Addr) (q : Addr)  (h0 : Heap) (h : Heap) : Prop := ∃ (r : Addr) (k : ClassId), h0.size ≤ r ∧ Fld Z h a "java/util/ArrayList" "elementData" "[Ljava/lang/Object;" (.ref r) ∧ Fld Z h a "java/util/ArrayList" "size" "I" (.int (1 : Int32)) ∧ Fld Z h a "java/util/AbstractList" "modCount" "I" (.int (1 : Int32)) ∧ Arv Z h r k (.object "java/lang/Object") (10 : Int32) [(.ref q), .null, .null, .null, .null, .null, .null, .null, .null, .null] (.null) ∧ Ovr Z k "java/lang/Object"
set_option maxRecDepth 65536 in
set_option maxHeartbeats 40000000 in
theorem c_add3a (l : Launch) {Z : State} {a0 : Array Value} (G : GH Z a0) (a : Addr) (q : Addr)  (h0 : Heap) (O0 : Old Z Z.heap.size h0) (p1 : Exa Z h0 a "java/util/ArrayList") (p2 : Z.heap.size ≤ a) (p3 : Fld Z h0 a "java/util/ArrayList" "elementData" "[Ljava/lang/Object;" (.ref (s_DEF Z))) (p4 : Fld Z h0 a "java/util/ArrayList" "size" "I" (.int (0 : Int32))) (p5 : Fld Z h0 a "java/util/AbstractList" "modCount" "I" (.int (1 : Int32))) (p6 : Exa Z h0 q "java/lang/String") : Con false [] l Z (⟨"java/util/ArrayList", "add", "(Ljava/lang/Object;[Ljava/lang/Object;I)V"⟩ : MethodName) jdk_38_method_24_code 4 none [] ({ frames := 3, cells := 1, slots := 10, locals := 41 } : Room) #[(.ref a), (.ref q), (.ref (s_DEF Z)), (.int (0 : Int32))] h0 [a] (rno (Q_add3a Z a q h0)) := by
  refine con_of (a0 := a0) (plainFor_of_name pn12) (fun q => rfl) EW.nil O0 (fun m => ef_add3a m a q) ?_
  intro p_ e_ s_ m_ below_ meth_ c_ hby hml hret hlk hnm
  obtain ⟨k1, A2⟩ := ar_DEF G
  refine go_iload_n (pc' := 1) (hb hby d19_0) rfl rfl ?_
  refine go_aload_n (pc' := 2) (hb hby d19_1) rfl rfl rfl ?_
  have Z3 := A2.ext O0.2
  refine go_arraylength (pc' := 3) Z3 (hb hby d19_2) rfl ?_
  refine go_icF (pc' := 6) (hb hby d19_3) rfl (by decide) ?_
  refine go_aload_n (pc' := 7) (hb hby d19_6) rfl rfl rfl ?_
  refine callP0 (cells' := 1) (slots' := 10) (Wd := 0) (argsL := []) (rest := []) (pay_of (a0 := a0) (c_grow l G a h0 O0 p1 p2 p3 p4 p5) (wk G 189 rfl) (wk G 154 rfl) (by decide) (by decide)) p1 (wk G 185 rfl) (wk G 186 rfl) (wk G 188 rfl) (wk G 187 rfl) (wk G 189 rfl) (by decide) pd10 rfl rfl (by rw [hml]; rfl) (Nat.le_of_ble_eq_true rfl) rfl rfl (by decide) (by decide) (allS p2 all0) (fun _ hal => (sfS safe_nil sf0)) (hb hby d19_7) (k_v (pc' := 10) rfl ?_)
  rintro _ h4 ⟨r6, r7, rfl, f8, f9, f10, f11, f12, f13⟩ K5
  refine go_astore_n (pc' := 11) (ls' := #[.val (.ref a), .val (.ref q), .val (.ref r6), .val (.int (0 : Int32))]) (hb hby d19_10) rfl rfl rfl ?_
  refine go_aload_n (pc' := 12) (hb hby d19_11) rfl rfl rfl ?_
  refine go_iload_n (pc' := 13) (hb hby d19_12) rfl rfl ?_
  refine go_aload_n (pc' := 14) (hb hby d19_13) rfl rfl rfl ?_
  have E17 := (p6.keep K5)
  refine go_stR (pc' := 15) (i := 0) (vs' := [(.ref q), .null, .null, .null, .null, .null, .null, .null, .null, .null]) f12 f13 (Ins.of_exa E17 (wk G 201 rfl)) (Nat.le_trans O0.2.1 f8) (by decide) (by decide) rfl (Nat.le_of_ble_eq_true rfl) rfl (hb hby d19_14) rfl (fun h14 W15 A16 => ?_)
  refine go_aload_n (pc' := 16) (hb hby d19_15) rfl rfl rfl ?_
  refine go_iload_n (pc' := 17) (hb hby d19_16) rfl rfl ?_
  refine go_iconst (pc' := 18) (v := 1) (hb hby d19_17) rfl rfl ?_
  refine go_iadd (pc' := 19) (z := (1 : Int32)) (hb hby d19_18) rfl (by decide) ?_
  have F18 := (f10.other W15 (Or.inl (Nat.ne_of_lt (Nat.lt_of_lt_of_le p1.lt f8))))
  have E19 := ((p1.keep K5).wr W15)
  refine go_putF (pc' := 22) (wk G 178 rfl) Via.refl F18 E19 (Or.inl (wk G 179 rfl)) (wk G 153 rfl) (ty := .int) (v' := (.int (1 : Int32))) (by decide) rfl rfl p2 (Or.inr rfl) (hb hby d19_19) rfl (fun h20 W21 => ?_)
  have F22 := Fld.same W21 F18
  have K23 : Keep h0 h4 [a] := ((Keep.refl h0 [a]).trans K5 (allS (Or.inl (by simp)) all0))
  have K24 : Keep h0 h14 [a] := (K23.wr W15 (Or.inr f8))
  have K25 : Keep h0 h20 [a] := (K24.wr W21 (Or.inl (by simp)))
  have F26 := ((f9.other W15 (Or.inl (Nat.ne_of_lt (Nat.lt_of_lt_of_le p1.lt f8)))).other W21 (Or.inr (slot_ne (t := (.array (.object "java/lang/Object"))) (t' := .int) (Or.inl (wk G 170 rfl)) (Or.inl (wk G 179 rfl)) (by decide) (by decide) (by decide))))
  have F27 := ((f11.other W15 (Or.inl (Nat.ne_of_lt (Nat.lt_of_lt_of_le p1.lt f8)))).other W21 (Or.inr (slot_ne (t := .int) (t' := .int) (Or.inl (wk G 167 rfl)) (Or.inl (wk G 179 rfl)) (by decide) (by decide) (by decide))))
  have A28 := (A16.other W21 (Nat.ne_of_gt (Nat.lt_of_lt_of_le p1.lt f8)))
  refine go_return hret hlk (hb hby d19_22) (by decide) (by decide) ⟨rfl, ⟨r6, r7, f8, F26, F22, F27, A28, f13⟩⟩ K25
theorem ef_add3b (m : MethodId) (a : Addr) (q : Addr) (t : Addr)  : entryFrame m #[(.ref a), (.ref q), (.ref t), (.int (1 : Int32))] 4 = mkF m 0 #[.val (.ref a), .val (.ref q), .val (.ref t), .val (.int (1 : Int32))] [] := by first | (simp [entryFrame, mkF, argsToLocals, Value.category]; done) | rfl
def Q_add3b (Z : State) (a : Addr) (q : Addr) (t : Addr) (k : ClassId) (q1 : Addr) (h0 : Heap) (h : Heap) : Prop := Fld Z h a "java/util/ArrayList" "size" "I" (.int (2 : Int32))
set_option maxRecDepth 65536 in
set_option maxHeartbeats 40000000 in
theorem c_add3b (l : Launch) {Z : State} {a0 : Array Value} (G : GH Z a0) (a : Addr) (q : Addr) (t : Addr) (k : ClassId) (q1 : Addr) (h0 : Heap) (O0 : Old Z Z.heap.size h0) (p1 : Exa Z h0 a "java/util/ArrayList") (p2 : Z.heap.size ≤ a) (p3 : Z.heap.size ≤ t) (p4 : a ≠ t) (p5 : Fld Z h0 a "java/util/ArrayList" "elementData" "[Ljava/lang/Object;" (.ref t)) (p6 : Fld Z h0 a "java/util/ArrayList" "size" "I" (.int (1 : Int32))) (p7 : Exa Z h0 q "java/lang/String") (p8 : Arv Z h0 t k (.object "java/lang/Object") (10 : Int32) [(.ref q1), .null, .null, .null, .null, .null, .null, .null, .null, .null] (.null)) (p9 : Ovr Z k "java/lang/Object") : Con false [] l Z (⟨"java/util/ArrayList", "add", "(Ljava/lang/Object;[Ljava/lang/Object;I)V"⟩ : MethodName) jdk_38_method_24_code 4 none [] ({ frames := 0, cells := 0, slots := 0, locals := 0 } : Room) #[(.ref a), (.ref q), (.ref t), (.int (1 : Int32))] h0 [a, t] (rno (Q_add3b Z a q t k q1 h0)) := by
  refine con_of (a0 := a0) (plainFor_of_name pn12) (fun q => rfl) EW.nil O0 (fun m => ef_add3b m a q t) ?_
  intro p_ e_ s_ m_ below_ meth_ c_ hby hml hret hlk hnm
  refine go_iload_n (pc' := 1) (hb hby d19_0) rfl rfl ?_
  refine go_aload_n (pc' := 2) (hb hby d19_1) rfl rfl rfl ?_
  refine go_arraylength (pc' := 3) p8 (hb hby d19_2) rfl ?_
  refine go_icT (pc' := 11) (hb hby d19_3) (by decide) rfl (by decide) ?_
  refine go_aload_n (pc' := 12) (hb hby d19_11) rfl rfl rfl ?_
  refine go_iload_n (pc' := 13) (hb hby d19_12) rfl rfl ?_
  refine go_aload_n (pc' := 14) (hb hby d19_13) rfl rfl rfl ?_
  refine go_stR (pc' := 15) (i := 1) (vs' := [(.ref q1), (.ref q), .null, .null, .null, .null, .null, .null, .null, .null]) p8 p9 (Ins.of_exa p7 (wk G 201 rfl)) p3 (by decide) (by decide) rfl (Nat.le_of_ble_eq_true rfl) rfl (hb hby d19_14) rfl (fun h1 W2 A3 => ?_)
  refine go_aload_n (pc' := 16) (hb hby d19_15) rfl rfl rfl ?_
  refine go_iload_n (pc' := 17) (hb hby d19_16) rfl rfl ?_
  refine go_iconst (pc' := 18) (v := 1) (hb hby d19_17) rfl rfl ?_
  refine go_iadd (pc' := 19) (z := (2 : Int32)) (hb hby d19_18) rfl (by decide) ?_
  have F4 := (p6.other W2 (Or.inl p4))
  have E5 := (p1.wr W2)
  refine go_putF (pc' := 22) (wk G 178 rfl) Via.refl F4 E5 (Or.inl (wk G 179 rfl)) (wk G 153 rfl) (ty := .int) (v' := (.int (2 : Int32))) (by decide) rfl rfl p2 (Or.inr rfl) (hb hby d19_19) rfl (fun h6 W7 => ?_)
  have F8 := Fld.same W7 F4
  have K9 : Keep h0 h1 [a, t] := ((Keep.refl h0 [a, t]).wr W2 (Or.inl (by simp)))
  have K10 : Keep h0 h6 [a, t] := (K9.wr W7 (Or.inl (by simp)))
  refine go_return hret hlk (hb hby d19_22) (by decide) (by decide) ⟨rfl, F8⟩ K10
theorem ef_adda (m : MethodId) (a : Addr) (q : Addr)  : entryFrame m #[(.ref a), (.ref q)] 2 = mkF m 0 #[.val (.ref a), .val (.ref q)] [] := by first | (simp [entryFrame, mkF, argsToLocals, Value.category]; done) | rfl
def Q_adda (Z : State) (a : Addr) (q : Addr)  (h0 : Heap) (xv : Value) (h : Heap) : Prop := ∃ (r : Addr) (k : ClassId), (.int (1 : Int32)) = xv ∧ h0.size ≤ r ∧ Fld Z h a "java/util/ArrayList" "elementData" "[Ljava/lang/Object;" (.ref r) ∧ Fld Z h a "java/util/ArrayList" "size" "I" (.int (1 : Int32)) ∧ Fld Z h a "java/util/AbstractList" "modCount" "I" (.int (1 : Int32)) ∧ Arv Z h r k (.object "java/lang/Object") (10 : Int32) [(.ref q), .null, .null, .null, .null, .null, .null, .null, .null, .null] (.null) ∧ Ovr Z k "java/lang/Object"
set_option maxRecDepth 65536 in
set_option maxHeartbeats 40000000 in
theorem c_adda (l : Launch) {Z : State} {a0 : Array Value} (G : GH Z a0) (a : Addr) (q : Addr)  (h0 : Heap) (O0 : Old Z Z.heap.size h0) (p1 : Exa Z h0 a "java/util/ArrayList") (p2 : Z.heap.size ≤ a) (p3 : Fld Z h0 a "java/util/ArrayList" "elementData" "[Ljava/lang/Object;" (.ref (s_DEF Z))) (p4 : Fld Z h0 a "java/util/ArrayList" "size" "I" (.int (0 : Int32))) (p5 : Fld Z h0 a "java/util/AbstractList" "modCount" "I" (.int (0 : Int32))) (p6 : Exa Z h0 q "java/lang/String") : Con false [] l Z (⟨"java/util/ArrayList", "add", "(Ljava/lang/Object;)Z"⟩ : MethodName) jdk_38_method_25_code 2 (some .boolean) [] ({ frames := 4, cells := 1, slots := 10, locals := 56 } : Room) #[(.ref a), (.ref q)] h0 [a] (rvl (Q_adda Z a q h0)) := by
  refine con_of (a0 := a0) (plainFor_of_name pn12) (fun q => rfl) EW.nil O0 (fun m => ef_adda m a q) ?_
  intro p_ e_ s_ m_ below_ meth_ c_ hby hml hret hlk hnm
  refine go_aload_n (pc' := 1) (hb hby d20_0) rfl rfl rfl ?_
  refine go_dup (pc' := 2) (hb hby d20_1) rfl rfl ?_
  refine go_getF (pc' := 5) (wk G 176 rfl) (Via.of (wk G 177 rfl)) p5 (hb hby d20_2) rfl ?_
  refine go_iconst (pc' := 6) (v := 1) (hb hby d20_5) rfl rfl ?_
  refine go_iadd (pc' := 7) (z := (1 : Int32)) (hb hby d20_6) rfl (by decide) ?_
  refine go_putF (pc' := 10) (wk G 176 rfl) (Via.of (wk G 177 rfl)) p5 p1 (Or.inl (wk G 167 rfl)) (wk G 153 rfl) (ty := .int) (v' := (.int (1 : Int32))) (by decide) rfl rfl p2 (Or.inr rfl) (hb hby d20_7) rfl (fun h1 W2 => ?_)
  have F3 := Fld.same W2 p5
  refine go_aload_n (pc' := 11) (hb hby d20_10) rfl rfl rfl ?_
  refine go_aload_n (pc' := 12) (hb hby d20_11) rfl rfl rfl ?_
  refine go_aload_n (pc' := 13) (hb hby d20_12) rfl rfl rfl ?_
  have F4 := (p3.other W2 (Or.inr (slot_ne (t := (.array (.object "java/lang/Object"))) (t' := .int) (Or.inl (wk G 170 rfl)) (Or.inl (wk G 167 rfl)) (by decide) (by decide) (by decide))))
  refine go_getF (pc' := 16) (wk G 169 rfl) Via.refl F4 (hb hby d20_13) rfl ?_
  refine go_aload_n (pc' := 17) (hb hby d20_16) rfl rfl rfl ?_
  have F5 := (p4.other W2 (Or.inr (slot_ne (t := .int) (t' := .int) (Or.inl (wk G 179 rfl)) (Or.inl (wk G 167 rfl)) (by decide) (by decide) (by decide))))
  refine go_getF (pc' := 20) (wk G 178 rfl) Via.refl F5 (hb hby d20_17) rfl ?_
  have E6 := (p1.wr W2)
  have E7 := (p6.wr W2)
  refine go_old (fun O8 => ?_)
  refine callP0 (cells' := 1) (slots' := 10) (Wd := 0) (argsL := [(.ref q), (.ref (s_DEF Z)), (.int (0 : Int32))]) (rest := []) (pay_of (a0 := a0) (c_add3a l G a q h1 O8 E6 p2 F4 F5 F3 E7) (wk G 184 rfl) (wk G 154 rfl) (by decide) (by decide)) E6 (wk G 180 rfl) (wk G 181 rfl) (wk G 183 rfl) (wk G 182 rfl) (wk G 184 rfl) (by decide) pd11 rfl rfl (by rw [hml]; rfl) (Nat.le_of_ble_eq_true rfl) rfl rfl (by decide) (by decide) (allS p2 all0) (fun _ hal => (sfS safe_nil sf0)) (hb hby d20_20) (k_n (pc' := 23) rfl ?_)
  rintro  h9 ⟨r11, r12, f13, f14, f15, f16, f17, f18⟩ K10
  refine go_iconst (pc' := 24) (v := 1) (hb hby d20_23) rfl rfl ?_
  have K19 : Keep h0 h1 [a] := ((Keep.refl h0 [a]).wr W2 (Or.inl (by simp)))
  have K20 : Keep h0 h9 [a] := (K19.trans K10 (allS (Or.inl (by simp)) all0))
  refine go_ireturn hret hlk rfl (by simp) (hb hby d20_24) (by decide) (by decide) ⟨_, rfl, ⟨r11, r12, rfl, (Nat.le_trans K19.1 f13), f14, f15, f16, f17, f18⟩⟩ K20
theorem ef_addb (m : MethodId) (a : Addr) (q : Addr)  : entryFrame m #[(.ref a), (.ref q)] 2 = mkF m 0 #[.val (.ref a), .val (.ref q)] [] := by first | (simp [entryFrame, mkF, argsToLocals, Value.category]; done) | rfl
def Q_addb (Z : State) (a : Addr) (q : Addr) (t : Addr) (k : ClassId) (q1 : Addr) (h0 : Heap) (xv : Value) (h : Heap) : Prop := (.int (1 : Int32)) = xv
set_option maxRecDepth 65536 in
set_option maxHeartbeats 40000000 in
theorem c_addb (l : Launch) {Z : State} {a0 : Array Value} (G : GH Z a0) (a : Addr) (q : Addr) (t : Addr) (k : ClassId) (q1 : Addr) (h0 : Heap) (O0 : Old Z Z.heap.size h0) (p1 : Exa Z h0 a "java/util/ArrayList") (p2 : Z.heap.size ≤ a) (p3 : Fld Z h0 a "java/util/ArrayList" "elementData" "[Ljava/lang/Object;" (.ref t)) (p4 : Z.heap.size ≤ t) (p5 : a ≠ t) (p6 : Fld Z h0 a "java/util/ArrayList" "size" "I" (.int (1 : Int32))) (p7 : Fld Z h0 a "java/util/AbstractList" "modCount" "I" (.int (1 : Int32))) (p8 : Exa Z h0 q "java/lang/String") (p9 : Arv Z h0 t k (.object "java/lang/Object") (10 : Int32) [(.ref q1), .null, .null, .null, .null, .null, .null, .null, .null, .null] (.null)) (p10 : Ovr Z k "java/lang/Object") : Con false [] l Z (⟨"java/util/ArrayList", "add", "(Ljava/lang/Object;)Z"⟩ : MethodName) jdk_38_method_25_code 2 (some .boolean) [] ({ frames := 1, cells := 0, slots := 0, locals := 15 } : Room) #[(.ref a), (.ref q)] h0 [a, t] (rvl (Q_addb Z a q t k q1 h0)) := by
  refine con_of (a0 := a0) (plainFor_of_name pn12) (fun q => rfl) EW.nil O0 (fun m => ef_addb m a q) ?_
  intro p_ e_ s_ m_ below_ meth_ c_ hby hml hret hlk hnm
  refine go_aload_n (pc' := 1) (hb hby d20_0) rfl rfl rfl ?_
  refine go_dup (pc' := 2) (hb hby d20_1) rfl rfl ?_
  refine go_getF (pc' := 5) (wk G 176 rfl) (Via.of (wk G 177 rfl)) p7 (hb hby d20_2) rfl ?_
  refine go_iconst (pc' := 6) (v := 1) (hb hby d20_5) rfl rfl ?_
  refine go_iadd (pc' := 7) (z := (2 : Int32)) (hb hby d20_6) rfl (by decide) ?_
  refine go_putF (pc' := 10) (wk G 176 rfl) (Via.of (wk G 177 rfl)) p7 p1 (Or.inl (wk G 167 rfl)) (wk G 153 rfl) (ty := .int) (v' := (.int (2 : Int32))) (by decide) rfl rfl p2 (Or.inr rfl) (hb hby d20_7) rfl (fun h1 W2 => ?_)
  have F3 := Fld.same W2 p7
  refine go_aload_n (pc' := 11) (hb hby d20_10) rfl rfl rfl ?_
  refine go_aload_n (pc' := 12) (hb hby d20_11) rfl rfl rfl ?_
  refine go_aload_n (pc' := 13) (hb hby d20_12) rfl rfl rfl ?_
  have F4 := (p3.other W2 (Or.inr (slot_ne (t := (.array (.object "java/lang/Object"))) (t' := .int) (Or.inl (wk G 170 rfl)) (Or.inl (wk G 167 rfl)) (by decide) (by decide) (by decide))))
  refine go_getF (pc' := 16) (wk G 169 rfl) Via.refl F4 (hb hby d20_13) rfl ?_
  refine go_aload_n (pc' := 17) (hb hby d20_16) rfl rfl rfl ?_
  have F5 := (p6.other W2 (Or.inr (slot_ne (t := .int) (t' := .int) (Or.inl (wk G 179 rfl)) (Or.inl (wk G 167 rfl)) (by decide) (by decide) (by decide))))
  refine go_getF (pc' := 20) (wk G 178 rfl) Via.refl F5 (hb hby d20_17) rfl ?_
  have E6 := (p1.wr W2)
  have E7 := (p8.wr W2)
  have A8 := (p9.other W2 (Ne.symm p5))
  refine go_old (fun O9 => ?_)
  refine callP0 (cells' := 0) (slots' := 0) (Wd := 0) (argsL := [(.ref q), (.ref t), (.int (1 : Int32))]) (rest := []) (pay_of (a0 := a0) (c_add3b l G a q t k q1 h1 O9 E6 p2 p4 p5 F4 F5 E7 A8 p10) (wk G 184 rfl) (wk G 154 rfl) (by decide) (by decide)) E6 (wk G 180 rfl) (wk G 181 rfl) (wk G 183 rfl) (wk G 182 rfl) (wk G 184 rfl) (by decide) pd11 rfl rfl (by rw [hml]; rfl) (Nat.le_of_ble_eq_true rfl) rfl rfl (by decide) (by decide) (allS p2 (allS p4 all0)) (fun _ hal => (sfS safe_nil (sfS safe_nil sf0))) (hb hby d20_20) (k_n (pc' := 23) rfl ?_)
  rintro  h10 f12 K11
  refine go_iconst (pc' := 24) (v := 1) (hb hby d20_23) rfl rfl ?_
  have K13 : Keep h0 h1 [a, t] := ((Keep.refl h0 [a, t]).wr W2 (Or.inl (by simp)))
  have K14 : Keep h0 h10 [a, t] := (K13.trans K11 (allS (Or.inl (by simp)) (allS (Or.inl (by simp)) all0)))
  refine go_ireturn hret hlk rfl (by simp) (hb hby d20_24) (by decide) (by decide) ⟨_, rfl, rfl⟩ K14
theorem ef_fdinitN (m : MethodId) (a : Addr) (u : Addr) (t : Addr) (w : Addr) (ro : Int32) (pl : Addr)  : entryFrame m #[(.ref a), (.ref u), (.ref t), (.ref w), (.int ro), .null, (.ref pl)] 7 = mkF m 0 #[.val (.ref a), .val (.ref u), .val (.ref t), .val (.ref w), .val (.int ro), .val .null, .val (.ref pl)] [] := by first | (simp [entryFrame, mkF, argsToLocals, Value.category]; done) | rfl
def Q_fdinitN (Z : State) (a : Addr) (u : Addr) (t : Addr) (w : Addr) (ro : Int32) (pl : Addr)  (h0 : Heap) (h : Heap) : Prop := Fld Z h a "com/example/hew/hew/Message$Field" "keyAndValue" "Ljava/util/List;" .null
set_option maxRecDepth 65536 in
set_option maxHeartbeats 40000000 in
theorem c_fdinitN (l : Launch) {Z : State} {a0 : Array Value} (G : GH Z a0) (a : Addr) (u : Addr) (t : Addr) (w : Addr) (ro : Int32) (pl : Addr)  (h0 : Heap) (O0 : Old Z Z.heap.size h0) (p1 : Exa Z h0 a "com/example/hew/hew/Message$Field") (p2 : Z.heap.size ≤ a) (p3 : Exa Z h0 u "java/lang/String") (p4 : Exa Z h0 t "java/lang/String") (p5 : Exa Z h0 w "com/example/hew/hew/Message$Field$Kind") (p6 : Exa Z h0 pl "com/example/hew/hew/Place") (p7 : narrow .boolean (.int ro) = .int ro ∧ fits .boolean (.int ro) = true) (p8 : Fld Z h0 a "com/example/hew/hew/Message$Field" "name" "Ljava/lang/String;" .null) (p9 : Fld Z h0 a "com/example/hew/hew/Message$Field" "type" "Ljava/lang/String;" .null) (p10 : Fld Z h0 a "com/example/hew/hew/Message$Field" "kind" "Lcom/example/hew/hew/Message$Field$Kind;" .null) (p11 : Fld Z h0 a "com/example/hew/hew/Message$Field" "repeated" "Z" (.int (0 : Int32))) (p12 : Fld Z h0 a "com/example/hew/hew/Message$Field" "keyAndValue" "Ljava/util/List;" .null) (p13 : Fld Z h0 a "com/example/hew/hew/Message$Field" "elementTypes" "Ljava/util/List;" .null) (p14 : Fld Z h0 a "com/example/hew/hew/Message$Field" "place" "Lcom/example/hew/hew/Place;" .null) : Con true EL1 l Z (⟨"com/example/hew/hew/Message$Field", "<init>", "(Ljava/lang/String;Ljava/lang/String;Lcom/example/hew/hew/Message$Field$Kind;ZLjava/util/List;Lcom/example/hew/hew/Place;)V"⟩ : MethodName) prog_28_method_1_code 7 none [] ({ frames := 6, cells := 9, slots := 86, locals := 75 } : Room) #[(.ref a), (.ref u), (.ref t), (.ref w), (.int ro), .null, (.ref pl)] h0 [a] (rno (Q_fdinitN Z a u t w ro pl h0)) := by
  refine con_of (a0 := a0) (plainFor_of_name pn13) (fun q => nomatch q) (ew1 G) O0 (fun m => ef_fdinitN m a u t w ro pl) ?_
  intro p_ e_ s_ m_ below_ meth_ c_ hby hml hret hlk hnm
  refine go_aload_n (pc' := 1) (hb hby d21_0) rfl rfl rfl ?_
  refine go_initO (pc' := 4) (Wd := 0) (wk G 79 rfl) (wk G 20 rfl) (wk G 21 rfl) (by rw [hml]; rfl) (by decide) (by decide) (by decide) (hb hby d21_1) rfl ?_
  refine go_aload_n (pc' := 5) (hb hby d21_4) rfl rfl rfl ?_
  refine go_aload_n (pc' := 6) (hb hby d21_5) rfl rfl rfl ?_
  refine go_ldcS (pc' := 8) (cells' := 2) (slots' := 20) (n := 16) rfl (wk G 80 rfl) (wS G) (by decide) (by decide) (hb hby d21_6) rfl rfl rfl (by decide) (by decide) (fun h1 a2 X3 => ?_)
  refine go_old (fun O4 => ?_)
  refine callS0 (cells' := 2) (slots' := 20) (Wd := 1) (argsL := [(.ref u), (.ref a2)]) (rest := [(.ref a)]) (pay_of (a0 := a0) (c_reqnn l G u a2 h1 O4 ) (wk G 65 rfl) (wk G 64 rfl) (by decide) (by decide)) (wk G 81 rfl) (wk G 63 rfl) (wk G 64 rfl) (wk G 65 rfl) (by decide) pd4 rfl rfl (by rw [hml]; rfl) (Nat.le_of_ble_eq_true rfl) rfl rfl (by decide) (by decide) all0 (fun _ _ => sf0) (hb hby d21_8) (k_v (pc' := 11) rfl ?_)
  rintro _ h5 ⟨rfl, rfl⟩ K6
  have K7 : Keep h0 h1 [] := ((Keep.refl h0 []).ext X3)
  have E8 := (p3.keep K7)
  refine go_cast (pc' := 14) (wk G 82 rfl) (Ins.self E8) (hb hby d21_11) rfl ?_
  have F9 := (p8.keep K7 nin0)
  have E10 := (p1.keep K7)
  refine go_putF (pc' := 17) (wk G 83 rfl) Via.refl F9 E10 (Or.inr ⟨(wk G 84 rfl), rfl, hnm⟩) (wk G 74 rfl) (ty := (.object "java/lang/String")) (v' := (.ref u)) (by decide) rfl rfl p2 (Or.inl (by decide)) (hb hby d21_14) rfl (fun h11 W12 => ?_)
  have F13 := Fld.same W12 F9
  refine go_aload_n (pc' := 18) (hb hby d21_17) rfl rfl rfl ?_
  refine go_aload_n (pc' := 19) (hb hby d21_18) rfl rfl rfl ?_
  refine go_ldcS (pc' := 21) (cells' := 4) (slots' := 40) (n := 16) rfl (wk G 85 rfl) (wS G) (by decide) (by decide) (hb hby d21_19) rfl rfl rfl (by decide) (by decide) (fun h14 a15 X16 => ?_)
  refine go_old (fun O17 => ?_)
  refine callS0 (cells' := 4) (slots' := 40) (Wd := 1) (argsL := [(.ref t), (.ref a15)]) (rest := [(.ref a)]) (pay_of (a0 := a0) (c_reqnn l G t a15 h14 O17 ) (wk G 65 rfl) (wk G 64 rfl) (by decide) (by decide)) (wk G 81 rfl) (wk G 63 rfl) (wk G 64 rfl) (wk G 65 rfl) (by decide) pd4 rfl rfl (by rw [hml]; rfl) (Nat.le_of_ble_eq_true rfl) rfl rfl (by decide) (by decide) all0 (fun _ _ => sf0) (hb hby d21_21) (k_v (pc' := 24) rfl ?_)
  rintro _ h18 ⟨rfl, rfl⟩ K19
  have E20 := (((p4.ext X3).wr W12).ext X16)
  refine go_cast (pc' := 27) (wk G 82 rfl) (Ins.self E20) (hb hby d21_24) rfl ?_
  have F21 := (((p9.ext X3).other W12 (Or.inr (slot_ne (t := (.object "java/lang/String")) (t' := (.object "java/lang/String")) (Or.inr (wk G 87 rfl)) (Or.inr (wk G 84 rfl)) (by decide) (by decide) (by decide)))).ext X16)
  have E22 := ((E10.wr W12).ext X16)
  refine go_putF (pc' := 30) (wk G 86 rfl) Via.refl F21 E22 (Or.inr ⟨(wk G 87 rfl), rfl, hnm⟩) (wk G 74 rfl) (ty := (.object "java/lang/String")) (v' := (.ref t)) (by decide) rfl rfl p2 (Or.inl (by decide)) (hb hby d21_27) rfl (fun h23 W24 => ?_)
  have F25 := Fld.same W24 F21
  refine go_aload_n (pc' := 31) (hb hby d21_30) rfl rfl rfl ?_
  refine go_aload_n (pc' := 32) (hb hby d21_31) rfl rfl rfl ?_
  refine go_ldcS (pc' := 34) (cells' := 6) (slots' := 60) (n := 16) rfl (wk G 88 rfl) (wS G) (by decide) (by decide) (hb hby d21_32) rfl rfl rfl (by decide) (by decide) (fun h26 a27 X28 => ?_)
  refine go_old (fun O29 => ?_)
  refine callS0 (cells' := 6) (slots' := 60) (Wd := 1) (argsL := [(.ref w), (.ref a27)]) (rest := [(.ref a)]) (pay_of (a0 := a0) (c_reqnn l G w a27 h26 O29 ) (wk G 65 rfl) (wk G 64 rfl) (by decide) (by decide)) (wk G 81 rfl) (wk G 63 rfl) (wk G 64 rfl) (wk G 65 rfl) (by decide) pd4 rfl rfl (by rw [hml]; rfl) (Nat.le_of_ble_eq_true rfl) rfl rfl (by decide) (by decide) all0 (fun _ _ => sf0) (hb hby d21_34) (k_v (pc' := 37) rfl ?_)
  rintro _ h30 ⟨rfl, rfl⟩ K31
  have E32 := (((((p5.ext X3).wr W12).ext X16).wr W24).ext X28)
  refine go_cast (pc' := 40) (wk G 89 rfl) (Ins.self E32) (hb hby d21_37) rfl ?_
  have F33 := (((((p10.ext X3).other W12 (Or.inr (slot_ne (t := (.object "com/example/hew/hew/Message$Field$Kind")) (t' := (.object "java/lang/String")) (Or.inr (wk G 92 rfl)) (Or.inr (wk G 84 rfl)) (by decide) (by decide) (by decide)))).ext X16).other W24 (Or.inr (slot_ne (t := (.object "com/example/hew/hew/Message$Field$Kind")) (t' := (.object "java/lang/String")) (Or.inr (wk G 92 rfl)) (Or.inr (wk G 87 rfl)) (by decide) (by decide) (by decide)))).ext X28)
  have E34 := ((E22.wr W24).ext X28)
  refine go_putF (pc' := 43) (wk G 91 rfl) Via.refl F33 E34 (Or.inr ⟨(wk G 92 rfl), rfl, hnm⟩) (wk G 74 rfl) (ty := (.object "com/example/hew/hew/Message$Field$Kind")) (v' := (.ref w)) (by decide) rfl rfl p2 (Or.inl (by decide)) (hb hby d21_40) rfl (fun h35 W36 => ?_)
  have F37 := Fld.same W36 F33
  refine go_aload_n (pc' := 44) (hb hby d21_43) rfl rfl rfl ?_
  refine go_iload (pc' := 46) (hb hby d21_44) rfl rfl ?_
  have F38 := ((((((p11.ext X3).other W12 (Or.inr (slot_ne (t := .boolean) (t' := (.object "java/lang/String")) (Or.inr (wk G 94 rfl)) (Or.inr (wk G 84 rfl)) (by decide) (by decide) (by decide)))).ext X16).other W24 (Or.inr (slot_ne (t := .boolean) (t' := (.object "java/lang/String")) (Or.inr (wk G 94 rfl)) (Or.inr (wk G 87 rfl)) (by decide) (by decide) (by decide)))).ext X28).other W36 (Or.inr (slot_ne (t := .boolean) (t' := (.object "com/example/hew/hew/Message$Field$Kind")) (Or.inr (wk G 94 rfl)) (Or.inr (wk G 92 rfl)) (by decide) (by decide) (by decide))))
  have E39 := (E34.wr W36)
  refine go_putF (pc' := 49) (wk G 93 rfl) Via.refl F38 E39 (Or.inr ⟨(wk G 94 rfl), rfl, hnm⟩) (wk G 74 rfl) (ty := .boolean) (v' := (.int ro)) (by decide) p7.1 p7.2 p2 (Or.inl (by decide)) (hb hby d21_46) rfl (fun h40 W41 => ?_)
  have F42 := Fld.same W41 F38
  refine go_aload_n (pc' := 50) (hb hby d21_49) rfl rfl rfl ?_
  refine go_aload (pc' := 52) (hb hby d21_50) rfl rfl rfl ?_
  have F43 := (((((((p12.ext X3).other W12 (Or.inr (slot_ne (t := (.object "java/util/List")) (t' := (.object "java/lang/String")) (Or.inr (wk G 96 rfl)) (Or.inr (wk G 84 rfl)) (by decide) (by decide) (by decide)))).ext X16).other W24 (Or.inr (slot_ne (t := (.object "java/util/List")) (t' := (.object "java/lang/String")) (Or.inr (wk G 96 rfl)) (Or.inr (wk G 87 rfl)) (by decide) (by decide) (by decide)))).ext X28).other W36 (Or.inr (slot_ne (t := (.object "java/util/List")) (t' := (.object "com/example/hew/hew/Message$Field$Kind")) (Or.inr (wk G 96 rfl)) (Or.inr (wk G 92 rfl)) (by decide) (by decide) (by decide)))).other W41 (Or.inr (slot_ne (t := (.object "java/util/List")) (t' := .boolean) (Or.inr (wk G 96 rfl)) (Or.inr (wk G 94 rfl)) (by decide) (by decide) (by decide))))
  have E44 := (E39.wr W41)
  refine go_putF (pc' := 55) (wk G 95 rfl) Via.refl F43 E44 (Or.inr ⟨(wk G 96 rfl), rfl, hnm⟩) (wk G 74 rfl) (ty := (.object "java/util/List")) (v' := .null) (by decide) rfl rfl p2 (Or.inl (by decide)) (hb hby d21_52) rfl (fun h45 W46 => ?_)
  have F47 := Fld.same W46 F43
  refine go_aload_n (pc' := 56) (hb hby d21_55) rfl rfl rfl ?_
  refine go_aload (pc' := 58) (hb hby d21_56) rfl rfl rfl ?_
  refine go_nullT (pc' := 66) (hb hby d21_58) (by decide) rfl ?_
  refine go_aload_n (pc' := 67) (hb hby d21_66) rfl rfl rfl ?_
  refine go_old (fun O48 => ?_)
  refine callS0 (cells' := 7) (slots' := 62) (Wd := 1) (argsL := [(.ref t)]) (rest := [(.ref a)]) (pay_of (a0 := a0) (c_listof l G t h45 O48 ) (wk G 100 rfl) (wk G 99 rfl) (by decide) (by decide)) (wk G 97 rfl) (wk G 98 rfl) (wk G 99 rfl) (wk G 100 rfl) (by decide) pd12 rfl rfl (by rw [hml]; rfl) (Nat.le_of_ble_eq_true rfl) rfl rfl (by decide) (by decide) all0 (fun _ _ => sf0) (hb hby d21_67) (k_v (pc' := 70) rfl ?_)
  rintro _ h49 ⟨r51, rfl⟩ K50
  have F52 := (((((((((p13.ext X3).other W12 (Or.inr (slot_ne (t := (.object "java/util/List")) (t' := (.object "java/lang/String")) (Or.inr (wk G 137 rfl)) (Or.inr (wk G 84 rfl)) (by decide) (by decide) (by decide)))).ext X16).other W24 (Or.inr (slot_ne (t := (.object "java/util/List")) (t' := (.object "java/lang/String")) (Or.inr (wk G 137 rfl)) (Or.inr (wk G 87 rfl)) (by decide) (by decide) (by decide)))).ext X28).other W36 (Or.inr (slot_ne (t := (.object "java/util/List")) (t' := (.object "com/example/hew/hew/Message$Field$Kind")) (Or.inr (wk G 137 rfl)) (Or.inr (wk G 92 rfl)) (by decide) (by decide) (by decide)))).other W41 (Or.inr (slot_ne (t := (.object "java/util/List")) (t' := .boolean) (Or.inr (wk G 137 rfl)) (Or.inr (wk G 94 rfl)) (by decide) (by decide) (by decide)))).other W46 (Or.inr (slot_ne (t := (.object "java/util/List")) (t' := (.object "java/util/List")) (Or.inr (wk G 137 rfl)) (Or.inr (wk G 96 rfl)) (by decide) (by decide) (by decide)))).keep K50 nin0)
  have E53 := ((E44.wr W46).keep K50)
  refine go_putF (pc' := 73) (wk G 136 rfl) Via.refl F52 E53 (Or.inr ⟨(wk G 137 rfl), rfl, hnm⟩) (wk G 74 rfl) (ty := (.object "java/util/List")) (v' := (.ref r51)) (by decide) rfl rfl p2 (Or.inl (by decide)) (hb hby d21_70) rfl (fun h54 W55 => ?_)
  have F56 := Fld.same W55 F52
  refine go_aload_n (pc' := 74) (hb hby d21_73) rfl rfl rfl ?_
  refine go_aload (pc' := 76) (hb hby d21_74) rfl rfl rfl ?_
  refine go_ldcS (pc' := 78) (cells' := 9) (slots' := 86) (n := 20) rfl (wk G 138 rfl) (wS G) (by decide) (by decide) (hb hby d21_76) rfl rfl rfl (by decide) (by decide) (fun h57 a58 X59 => ?_)
  refine go_old (fun O60 => ?_)
  refine callS0 (cells' := 9) (slots' := 86) (Wd := 1) (argsL := [(.ref pl), (.ref a58)]) (rest := [(.ref a)]) (pay_of (a0 := a0) (c_reqnn l G pl a58 h57 O60 ) (wk G 65 rfl) (wk G 64 rfl) (by decide) (by decide)) (wk G 81 rfl) (wk G 63 rfl) (wk G 64 rfl) (wk G 65 rfl) (by decide) pd4 rfl rfl (by rw [hml]; rfl) (Nat.le_of_ble_eq_true rfl) rfl rfl (by decide) (by decide) all0 (fun _ _ => sf0) (hb hby d21_78) (k_v (pc' := 81) rfl ?_)
  rintro _ h61 ⟨rfl, rfl⟩ K62
  have E63 := (((((((((((p6.ext X3).wr W12).ext X16).wr W24).ext X28).wr W36).wr W41).wr W46).keep K50).wr W55).ext X59)
  refine go_cast (pc' := 84) (wk G 139 rfl) (Ins.self E63) (hb hby d21_81) rfl ?_
  have F64 := (((((((((((p14.ext X3).other W12 (Or.inr (slot_ne (t := (.object "com/example/hew/hew/Place")) (t' := (.object "java/lang/String")) (Or.inr (wk G 142 rfl)) (Or.inr (wk G 84 rfl)) (by decide) (by decide) (by decide)))).ext X16).other W24 (Or.inr (slot_ne (t := (.object "com/example/hew/hew/Place")) (t' := (.object "java/lang/String")) (Or.inr (wk G 142 rfl)) (Or.inr (wk G 87 rfl)) (by decide) (by decide) (by decide)))).ext X28).other W36 (Or.inr (slot_ne (t := (.object "com/example/hew/hew/Place")) (t' := (.object "com/example/hew/hew/Message$Field$Kind")) (Or.inr (wk G 142 rfl)) (Or.inr (wk G 92 rfl)) (by decide) (by decide) (by decide)))).other W41 (Or.inr (slot_ne (t := (.object "com/example/hew/hew/Place")) (t' := .boolean) (Or.inr (wk G 142 rfl)) (Or.inr (wk G 94 rfl)) (by decide) (by decide) (by decide)))).other W46 (Or.inr (slot_ne (t := (.object "com/example/hew/hew/Place")) (t' := (.object "java/util/List")) (Or.inr (wk G 142 rfl)) (Or.inr (wk G 96 rfl)) (by decide) (by decide) (by decide)))).keep K50 nin0).other W55 (Or.inr (slot_ne (t := (.object "com/example/hew/hew/Place")) (t' := (.object "java/util/List")) (Or.inr (wk G 142 rfl)) (Or.inr (wk G 137 rfl)) (by decide) (by decide) (by decide)))).ext X59)
  have E65 := ((E53.wr W55).ext X59)
  refine go_putF (pc' := 87) (wk G 141 rfl) Via.refl F64 E65 (Or.inr ⟨(wk G 142 rfl), rfl, hnm⟩) (wk G 74 rfl) (ty := (.object "com/example/hew/hew/Place")) (v' := (.ref pl)) (by decide) rfl rfl p2 (Or.inl (by decide)) (hb hby d21_84) rfl (fun h66 W67 => ?_)
  have F68 := Fld.same W67 F64
  have K69 : Keep h0 h1 [a] := ((Keep.refl h0 [a]).ext X3)
  have K70 : Keep h0 h11 [a] := (K69.wr W12 (Or.inl (by simp)))
  have K71 : Keep h0 h14 [a] := (K70.ext X16)
  have K72 : Keep h0 h23 [a] := (K71.wr W24 (Or.inl (by simp)))
  have K73 : Keep h0 h26 [a] := (K72.ext X28)
  have K74 : Keep h0 h35 [a] := (K73.wr W36 (Or.inl (by simp)))
  have K75 : Keep h0 h40 [a] := (K74.wr W41 (Or.inl (by simp)))
  have K76 : Keep h0 h45 [a] := (K75.wr W46 (Or.inl (by simp)))
  have K77 : Keep h0 h49 [a] := (K76.trans K50 all0)
  have K78 : Keep h0 h54 [a] := (K77.wr W55 (Or.inl (by simp)))
  have K79 : Keep h0 h57 [a] := (K78.ext X59)
  have K80 : Keep h0 h66 [a] := (K79.wr W67 (Or.inl (by simp)))
  have K81 : Keep h45 h49 [] := ((Keep.refl h45 []).trans K50 all0)
  have F82 := ((((F47.keep K50 nin0).other W55 (Or.inr (slot_ne (t := (.object "java/util/List")) (t' := (.object "java/util/List")) (Or.inr (wk G 96 rfl)) (Or.inr (wk G 137 rfl)) (by decide) (by decide) (by decide)))).ext X59).other W67 (Or.inr (slot_ne (t := (.object "java/util/List")) (t' := (.object "com/example/hew/hew/Place")) (Or.inr (wk G 96 rfl)) (Or.inr (wk G 142 rfl)) (by decide) (by decide) (by decide))))
  refine go_return hret hlk (hb hby d21_87) (by decide) (by decide) ⟨rfl, F82⟩ K80
theorem ef_fdinitR (m : MethodId) (a : Addr) (u : Addr) (t : Addr) (w : Addr) (ro : Int32) (kv : Addr) (pl : Addr)  : entryFrame m #[(.ref a), (.ref u), (.ref t), (.ref w), (.int ro), (.ref kv), (.ref pl)] 7 = mkF m 0 #[.val (.ref a), .val (.ref u), .val (.ref t), .val (.ref w), .val (.int ro), .val (.ref kv), .val (.ref pl)] [] := by first | (simp [entryFrame, mkF, argsToLocals, Value.category]; done) | rfl
def Q_fdinitR (Z : State) (a : Addr) (u : Addr) (t : Addr) (w : Addr) (ro : Int32) (kv : Addr) (pl : Addr)  (h0 : Heap) (h : Heap) : Prop := Fld Z h a "com/example/hew/hew/Message$Field" "keyAndValue" "Ljava/util/List;" (.ref kv)
set_option maxRecDepth 65536 in
set_option maxHeartbeats 40000000 in
theorem c_fdinitR (l : Launch) {Z : State} {a0 : Array Value} (G : GH Z a0) (a : Addr) (u : Addr) (t : Addr) (w : Addr) (ro : Int32) (kv : Addr) (pl : Addr)  (h0 : Heap) (O0 : Old Z Z.heap.size h0) (p1 : Exa Z h0 a "com/example/hew/hew/Message$Field") (p2 : Z.heap.size ≤ a) (p3 : Exa Z h0 u "java/lang/String") (p4 : Exa Z h0 t "java/lang/String") (p5 : Exa Z h0 w "com/example/hew/hew/Message$Field$Kind") (p6 : Exa Z h0 pl "com/example/hew/hew/Place") (p7 : narrow .boolean (.int ro) = .int ro ∧ fits .boolean (.int ro) = true) (p8 : Fld Z h0 a "com/example/hew/hew/Message$Field" "name" "Ljava/lang/String;" .null) (p9 : Fld Z h0 a "com/example/hew/hew/Message$Field" "type" "Ljava/lang/String;" .null) (p10 : Fld Z h0 a "com/example/hew/hew/Message$Field" "kind" "Lcom/example/hew/hew/Message$Field$Kind;" .null) (p11 : Fld Z h0 a "com/example/hew/hew/Message$Field" "repeated" "Z" (.int (0 : Int32))) (p12 : Fld Z h0 a "com/example/hew/hew/Message$Field" "keyAndValue" "Ljava/util/List;" .null) (p13 : Fld Z h0 a "com/example/hew/hew/Message$Field" "elementTypes" "Ljava/util/List;" .null) (p14 : Fld Z h0 a "com/example/hew/hew/Message$Field" "place" "Lcom/example/hew/hew/Place;" .null) : Con true EL1 l Z (⟨"com/example/hew/hew/Message$Field", "<init>", "(Ljava/lang/String;Ljava/lang/String;Lcom/example/hew/hew/Message$Field$Kind;ZLjava/util/List;Lcom/example/hew/hew/Place;)V"⟩ : MethodName) prog_28_method_1_code 7 none [] ({ frames := 1, cells := 8, slots := 84, locals := 14 } : Room) #[(.ref a), (.ref u), (.ref t), (.ref w), (.int ro), (.ref kv), (.ref pl)] h0 [a] (rno (Q_fdinitR Z a u t w ro kv pl h0)) := by
  refine con_of (a0 := a0) (plainFor_of_name pn13) (fun q => nomatch q) (ew1 G) O0 (fun m => ef_fdinitR m a u t w ro kv pl) ?_
  intro p_ e_ s_ m_ below_ meth_ c_ hby hml hret hlk hnm
  refine go_aload_n (pc' := 1) (hb hby d21_0) rfl rfl rfl ?_
  refine go_initO (pc' := 4) (Wd := 0) (wk G 79 rfl) (wk G 20 rfl) (wk G 21 rfl) (by rw [hml]; rfl) (by decide) (by decide) (by decide) (hb hby d21_1) rfl ?_
  refine go_aload_n (pc' := 5) (hb hby d21_4) rfl rfl rfl ?_
  refine go_aload_n (pc' := 6) (hb hby d21_5) rfl rfl rfl ?_
  refine go_ldcS (pc' := 8) (cells' := 2) (slots' := 20) (n := 16) rfl (wk G 80 rfl) (wS G) (by decide) (by decide) (hb hby d21_6) rfl rfl rfl (by decide) (by decide) (fun h1 a2 X3 => ?_)
  refine go_old (fun O4 => ?_)
  refine callS0 (cells' := 2) (slots' := 20) (Wd := 1) (argsL := [(.ref u), (.ref a2)]) (rest := [(.ref a)]) (pay_of (a0 := a0) (c_reqnn l G u a2 h1 O4 ) (wk G 65 rfl) (wk G 64 rfl) (by decide) (by decide)) (wk G 81 rfl) (wk G 63 rfl) (wk G 64 rfl) (wk G 65 rfl) (by decide) pd4 rfl rfl (by rw [hml]; rfl) (Nat.le_of_ble_eq_true rfl) rfl rfl (by decide) (by decide) all0 (fun _ _ => sf0) (hb hby d21_8) (k_v (pc' := 11) rfl ?_)
  rintro _ h5 ⟨rfl, rfl⟩ K6
  have K7 : Keep h0 h1 [] := ((Keep.refl h0 []).ext X3)
  have E8 := (p3.keep K7)
  refine go_cast (pc' := 14) (wk G 82 rfl) (Ins.self E8) (hb hby d21_11) rfl ?_
  have F9 := (p8.keep K7 nin0)
  have E10 := (p1.keep K7)
  refine go_putF (pc' := 17) (wk G 83 rfl) Via.refl F9 E10 (Or.inr ⟨(wk G 84 rfl), rfl, hnm⟩) (wk G 74 rfl) (ty := (.object "java/lang/String")) (v' := (.ref u)) (by decide) rfl rfl p2 (Or.inl (by decide)) (hb hby d21_14) rfl (fun h11 W12 => ?_)
  have F13 := Fld.same W12 F9
  refine go_aload_n (pc' := 18) (hb hby d21_17) rfl rfl rfl ?_
  refine go_aload_n (pc' := 19) (hb hby d21_18) rfl rfl rfl ?_
  refine go_ldcS (pc' := 21) (cells' := 4) (slots' := 40) (n := 16) rfl (wk G 85 rfl) (wS G) (by decide) (by decide) (hb hby d21_19) rfl rfl rfl (by decide) (by decide) (fun h14 a15 X16 => ?_)
  refine go_old (fun O17 => ?_)
  refine callS0 (cells' := 4) (slots' := 40) (Wd := 1) (argsL := [(.ref t), (.ref a15)]) (rest := [(.ref a)]) (pay_of (a0 := a0) (c_reqnn l G t a15 h14 O17 ) (wk G 65 rfl) (wk G 64 rfl) (by decide) (by decide)) (wk G 81 rfl) (wk G 63 rfl) (wk G 64 rfl) (wk G 65 rfl) (by decide) pd4 rfl rfl (by rw [hml]; rfl) (Nat.le_of_ble_eq_true rfl) rfl rfl (by decide) (by decide) all0 (fun _ _ => sf0) (hb hby d21_21) (k_v (pc' := 24) rfl ?_)
  rintro _ h18 ⟨rfl, rfl⟩ K19
  have E20 := (((p4.ext X3).wr W12).ext X16)
  refine go_cast (pc' := 27) (wk G 82 rfl) (Ins.self E20) (hb hby d21_24) rfl ?_
  have F21 := (((p9.ext X3).other W12 (Or.inr (slot_ne (t := (.object "java/lang/String")) (t' := (.object "java/lang/String")) (Or.inr (wk G 87 rfl)) (Or.inr (wk G 84 rfl)) (by decide) (by decide) (by decide)))).ext X16)
  have E22 := ((E10.wr W12).ext X16)
  refine go_putF (pc' := 30) (wk G 86 rfl) Via.refl F21 E22 (Or.inr ⟨(wk G 87 rfl), rfl, hnm⟩) (wk G 74 rfl) (ty := (.object "java/lang/String")) (v' := (.ref t)) (by decide) rfl rfl p2 (Or.inl (by decide)) (hb hby d21_27) rfl (fun h23 W24 => ?_)
  have F25 := Fld.same W24 F21
  refine go_aload_n (pc' := 31) (hb hby d21_30) rfl rfl rfl ?_
  refine go_aload_n (pc' := 32) (hb hby d21_31) rfl rfl rfl ?_
  refine go_ldcS (pc' := 34) (cells' := 6) (slots' := 60) (n := 16) rfl (wk G 88 rfl) (wS G) (by decide) (by decide) (hb hby d21_32) rfl rfl rfl (by decide) (by decide) (fun h26 a27 X28 => ?_)
  refine go_old (fun O29 => ?_)
  refine callS0 (cells' := 6) (slots' := 60) (Wd := 1) (argsL := [(.ref w), (.ref a27)]) (rest := [(.ref a)]) (pay_of (a0 := a0) (c_reqnn l G w a27 h26 O29 ) (wk G 65 rfl) (wk G 64 rfl) (by decide) (by decide)) (wk G 81 rfl) (wk G 63 rfl) (wk G 64 rfl) (wk G 65 rfl) (by decide) pd4 rfl rfl (by rw [hml]; rfl) (Nat.le_of_ble_eq_true rfl) rfl rfl (by decide) (by decide) all0 (fun _ _ => sf0) (hb hby d21_34) (k_v (pc' := 37) rfl ?_)
  rintro _ h30 ⟨rfl, rfl⟩ K31
  have E32 := (((((p5.ext X3).wr W12).ext X16).wr W24).ext X28)
  refine go_cast (pc' := 40) (wk G 89 rfl) (Ins.self E32) (hb hby d21_37) rfl ?_
  have F33 := (((((p10.ext X3).other W12 (Or.inr (slot_ne (t := (.object "com/example/hew/hew/Message$Field$Kind")) (t' := (.object "java/lang/String")) (Or.inr (wk G 92 rfl)) (Or.inr (wk G 84 rfl)) (by decide) (by decide) (by decide)))).ext X16).other W24 (Or.inr (slot_ne (t := (.object "com/example/hew/hew/Message$Field$Kind")) (t' := (.object "java/lang/String")) (Or.inr (wk G 92 rfl)) (Or.inr (wk G 87 rfl)) (by decide) (by decide) (by decide)))).ext X28)
  have E34 := ((E22.wr W24).ext X28)
  refine go_putF (pc' := 43) (wk G 91 rfl) Via.refl F33 E34 (Or.inr ⟨(wk G 92 rfl), rfl, hnm⟩) (wk G 74 rfl) (ty := (.object "com/example/hew/hew/Message$Field$Kind")) (v' := (.ref w)) (by decide) rfl rfl p2 (Or.inl (by decide)) (hb hby d21_40) rfl (fun h35 W36 => ?_)
  have F37 := Fld.same W36 F33
  refine go_aload_n (pc' := 44) (hb hby d21_43) rfl rfl rfl ?_
  refine go_iload (pc' := 46) (hb hby d21_44) rfl rfl ?_
  have F38 := ((((((p11.ext X3).other W12 (Or.inr (slot_ne (t := .boolean) (t' := (.object "java/lang/String")) (Or.inr (wk G 94 rfl)) (Or.inr (wk G 84 rfl)) (by decide) (by decide) (by decide)))).ext X16).other W24 (Or.inr (slot_ne (t := .boolean) (t' := (.object "java/lang/String")) (Or.inr (wk G 94 rfl)) (Or.inr (wk G 87 rfl)) (by decide) (by decide) (by decide)))).ext X28).other W36 (Or.inr (slot_ne (t := .boolean) (t' := (.object "com/example/hew/hew/Message$Field$Kind")) (Or.inr (wk G 94 rfl)) (Or.inr (wk G 92 rfl)) (by decide) (by decide) (by decide))))
  have E39 := (E34.wr W36)
  refine go_putF (pc' := 49) (wk G 93 rfl) Via.refl F38 E39 (Or.inr ⟨(wk G 94 rfl), rfl, hnm⟩) (wk G 74 rfl) (ty := .boolean) (v' := (.int ro)) (by decide) p7.1 p7.2 p2 (Or.inl (by decide)) (hb hby d21_46) rfl (fun h40 W41 => ?_)
  have F42 := Fld.same W41 F38
  refine go_aload_n (pc' := 50) (hb hby d21_49) rfl rfl rfl ?_
  refine go_aload (pc' := 52) (hb hby d21_50) rfl rfl rfl ?_
  have F43 := (((((((p12.ext X3).other W12 (Or.inr (slot_ne (t := (.object "java/util/List")) (t' := (.object "java/lang/String")) (Or.inr (wk G 96 rfl)) (Or.inr (wk G 84 rfl)) (by decide) (by decide) (by decide)))).ext X16).other W24 (Or.inr (slot_ne (t := (.object "java/util/List")) (t' := (.object "java/lang/String")) (Or.inr (wk G 96 rfl)) (Or.inr (wk G 87 rfl)) (by decide) (by decide) (by decide)))).ext X28).other W36 (Or.inr (slot_ne (t := (.object "java/util/List")) (t' := (.object "com/example/hew/hew/Message$Field$Kind")) (Or.inr (wk G 96 rfl)) (Or.inr (wk G 92 rfl)) (by decide) (by decide) (by decide)))).other W41 (Or.inr (slot_ne (t := (.object "java/util/List")) (t' := .boolean) (Or.inr (wk G 96 rfl)) (Or.inr (wk G 94 rfl)) (by decide) (by decide) (by decide))))
  have E44 := (E39.wr W41)
  refine go_putF (pc' := 55) (wk G 95 rfl) Via.refl F43 E44 (Or.inr ⟨(wk G 96 rfl), rfl, hnm⟩) (wk G 74 rfl) (ty := (.object "java/util/List")) (v' := (.ref kv)) (by decide) rfl rfl p2 (Or.inl (by decide)) (hb hby d21_52) rfl (fun h45 W46 => ?_)
  have F47 := Fld.same W46 F43
  refine go_aload_n (pc' := 56) (hb hby d21_55) rfl rfl rfl ?_
  refine go_aload (pc' := 58) (hb hby d21_56) rfl rfl rfl ?_
  refine go_nullF (pc' := 61) (hb hby d21_58) rfl ?_
  refine go_aload (pc' := 63) (hb hby d21_61) rfl rfl rfl ?_
  refine go_goto (pc' := 70) (hb hby d21_63) (by decide) rfl ?_
  have F48 := ((((((((p13.ext X3).other W12 (Or.inr (slot_ne (t := (.object "java/util/List")) (t' := (.object "java/lang/String")) (Or.inr (wk G 137 rfl)) (Or.inr (wk G 84 rfl)) (by decide) (by decide) (by decide)))).ext X16).other W24 (Or.inr (slot_ne (t := (.object "java/util/List")) (t' := (.object "java/lang/String")) (Or.inr (wk G 137 rfl)) (Or.inr (wk G 87 rfl)) (by decide) (by decide) (by decide)))).ext X28).other W36 (Or.inr (slot_ne (t := (.object "java/util/List")) (t' := (.object "com/example/hew/hew/Message$Field$Kind")) (Or.inr (wk G 137 rfl)) (Or.inr (wk G 92 rfl)) (by decide) (by decide) (by decide)))).other W41 (Or.inr (slot_ne (t := (.object "java/util/List")) (t' := .boolean) (Or.inr (wk G 137 rfl)) (Or.inr (wk G 94 rfl)) (by decide) (by decide) (by decide)))).other W46 (Or.inr (slot_ne (t := (.object "java/util/List")) (t' := (.object "java/util/List")) (Or.inr (wk G 137 rfl)) (Or.inr (wk G 96 rfl)) (by decide) (by decide) (by decide))))
  have E49 := (E44.wr W46)
  refine go_putF (pc' := 73) (wk G 136 rfl) Via.refl F48 E49 (Or.inr ⟨(wk G 137 rfl), rfl, hnm⟩) (wk G 74 rfl) (ty := (.object "java/util/List")) (v' := (.ref kv)) (by decide) rfl rfl p2 (Or.inl (by decide)) (hb hby d21_70) rfl (fun h50 W51 => ?_)
  have F52 := Fld.same W51 F48
  refine go_aload_n (pc' := 74) (hb hby d21_73) rfl rfl rfl ?_
  refine go_aload (pc' := 76) (hb hby d21_74) rfl rfl rfl ?_
  refine go_ldcS (pc' := 78) (cells' := 8) (slots' := 84) (n := 20) rfl (wk G 138 rfl) (wS G) (by decide) (by decide) (hb hby d21_76) rfl rfl rfl (by decide) (by decide) (fun h53 a54 X55 => ?_)
  refine go_old (fun O56 => ?_)
  refine callS0 (cells' := 8) (slots' := 84) (Wd := 1) (argsL := [(.ref pl), (.ref a54)]) (rest := [(.ref a)]) (pay_of (a0 := a0) (c_reqnn l G pl a54 h53 O56 ) (wk G 65 rfl) (wk G 64 rfl) (by decide) (by decide)) (wk G 81 rfl) (wk G 63 rfl) (wk G 64 rfl) (wk G 65 rfl) (by decide) pd4 rfl rfl (by rw [hml]; rfl) (Nat.le_of_ble_eq_true rfl) rfl rfl (by decide) (by decide) all0 (fun _ _ => sf0) (hb hby d21_78) (k_v (pc' := 81) rfl ?_)
  rintro _ h57 ⟨rfl, rfl⟩ K58
  have E59 := ((((((((((p6.ext X3).wr W12).ext X16).wr W24).ext X28).wr W36).wr W41).wr W46).wr W51).ext X55)
  refine go_cast (pc' := 84) (wk G 139 rfl) (Ins.self E59) (hb hby d21_81) rfl ?_
  have F60 := ((((((((((p14.ext X3).other W12 (Or.inr (slot_ne (t := (.object "com/example/hew/hew/Place")) (t' := (.object "java/lang/String")) (Or.inr (wk G 142 rfl)) (Or.inr (wk G 84 rfl)) (by decide) (by decide) (by decide)))).ext X16).other W24 (Or.inr (slot_ne (t := (.object "com/example/hew/hew/Place")) (t' := (.object "java/lang/String")) (Or.inr (wk G 142 rfl)) (Or.inr (wk G 87 rfl)) (by decide) (by decide) (by decide)))).ext X28).other W36 (Or.inr (slot_ne (t := (.object "com/example/hew/hew/Place")) (t' := (.object "com/example/hew/hew/Message$Field$Kind")) (Or.inr (wk G 142 rfl)) (Or.inr (wk G 92 rfl)) (by decide) (by decide) (by decide)))).other W41 (Or.inr (slot_ne (t := (.object "com/example/hew/hew/Place")) (t' := .boolean) (Or.inr (wk G 142 rfl)) (Or.inr (wk G 94 rfl)) (by decide) (by decide) (by decide)))).other W46 (Or.inr (slot_ne (t := (.object "com/example/hew/hew/Place")) (t' := (.object "java/util/List")) (Or.inr (wk G 142 rfl)) (Or.inr (wk G 96 rfl)) (by decide) (by decide) (by decide)))).other W51 (Or.inr (slot_ne (t := (.object "com/example/hew/hew/Place")) (t' := (.object "java/util/List")) (Or.inr (wk G 142 rfl)) (Or.inr (wk G 137 rfl)) (by decide) (by decide) (by decide)))).ext X55)
  have E61 := ((E49.wr W51).ext X55)
  refine go_putF (pc' := 87) (wk G 141 rfl) Via.refl F60 E61 (Or.inr ⟨(wk G 142 rfl), rfl, hnm⟩) (wk G 74 rfl) (ty := (.object "com/example/hew/hew/Place")) (v' := (.ref pl)) (by decide) rfl rfl p2 (Or.inl (by decide)) (hb hby d21_84) rfl (fun h62 W63 => ?_)
  have F64 := Fld.same W63 F60
  have K65 : Keep h0 h1 [a] := ((Keep.refl h0 [a]).ext X3)
  have K66 : Keep h0 h11 [a] := (K65.wr W12 (Or.inl (by simp)))
  have K67 : Keep h0 h14 [a] := (K66.ext X16)
  have K68 : Keep h0 h23 [a] := (K67.wr W24 (Or.inl (by simp)))
  have K69 : Keep h0 h26 [a] := (K68.ext X28)
  have K70 : Keep h0 h35 [a] := (K69.wr W36 (Or.inl (by simp)))
  have K71 : Keep h0 h40 [a] := (K70.wr W41 (Or.inl (by simp)))
  have K72 : Keep h0 h45 [a] := (K71.wr W46 (Or.inl (by simp)))
  have K73 : Keep h0 h50 [a] := (K72.wr W51 (Or.inl (by simp)))
  have K74 : Keep h0 h53 [a] := (K73.ext X55)
  have K75 : Keep h0 h62 [a] := (K74.wr W63 (Or.inl (by simp)))
  have F76 := (((F47.other W51 (Or.inr (slot_ne (t := (.object "java/util/List")) (t' := (.object "java/util/List")) (Or.inr (wk G 96 rfl)) (Or.inr (wk G 137 rfl)) (by decide) (by decide) (by decide)))).ext X55).other W63 (Or.inr (slot_ne (t := (.object "java/util/List")) (t' := (.object "com/example/hew/hew/Place")) (Or.inr (wk G 96 rfl)) (Or.inr (wk G 142 rfl)) (by decide) (by decide) (by decide))))
  refine go_return hret hlk (hb hby d21_87) (by decide) (by decide) ⟨rfl, F76⟩ K75
theorem ef_ismapN (m : MethodId) (a : Addr)  : entryFrame m #[(.ref a)] 1 = mkF m 0 #[.val (.ref a)] [] := by first | (simp [entryFrame, mkF, argsToLocals, Value.category]; done) | rfl
def Q_ismapN (Z : State) (a : Addr)  (h0 : Heap) (xv : Value) (h : Heap) : Prop := (.int (0 : Int32)) = xv ∧ h0 = h
set_option maxRecDepth 65536 in
set_option maxHeartbeats 40000000 in
theorem c_ismapN (l : Launch) {Z : State} {a0 : Array Value} (G : GH Z a0) (a : Addr)  (h0 : Heap) (O0 : Old Z Z.heap.size h0) (p1 : Fld Z h0 a "com/example/hew/hew/Message$Field" "keyAndValue" "Ljava/util/List;" .null) : Con false [] l Z (⟨"com/example/hew/hew/Message$Field", "isMap", "()Z"⟩ : MethodName) prog_28_method_10_code 1 (some .boolean) [] ({ frames := 0, cells := 0, slots := 0, locals := 0 } : Room) #[(.ref a)] h0 [] (rvl (Q_ismapN Z a h0)) := by
  refine con_of (a0 := a0) (plainFor_of_name pn13) (fun q => rfl) EW.nil O0 (fun m => ef_ismapN m a) ?_
  intro p_ e_ s_ m_ below_ meth_ c_ hby hml hret hlk hnm
  refine go_aload_n (pc' := 1) (hb hby d22_0) rfl rfl rfl ?_
  refine go_getF (pc' := 4) (wk G 95 rfl) Via.refl p1 (hb hby d22_1) rfl ?_
  refine go_nullT (pc' := 11) (hb hby d22_4) (by decide) rfl ?_
  refine go_iconst (pc' := 12) (v := 0) (hb hby d22_11) rfl rfl ?_
  refine go_ireturn hret hlk rfl (by simp) (hb hby d22_12) (by decide) (by decide) ⟨_, rfl, ⟨rfl, rfl⟩⟩ (Keep.refl h0 [])
theorem ef_ismapR (m : MethodId) (a : Addr)  : entryFrame m #[(.ref a)] 1 = mkF m 0 #[.val (.ref a)] [] := by first | (simp [entryFrame, mkF, argsToLocals, Value.category]; done) | rfl
def Q_ismapR (Z : State) (a : Addr) (kv : Addr) (h0 : Heap) (xv : Value) (h : Heap) : Prop := (.int (1 : Int32)) = xv ∧ h0 = h
set_option maxRecDepth 65536 in
set_option maxHeartbeats 40000000 in
theorem c_ismapR (l : Launch) {Z : State} {a0 : Array Value} (G : GH Z a0) (a : Addr) (kv : Addr) (h0 : Heap) (O0 : Old Z Z.heap.size h0) (p1 : Fld Z h0 a "com/example/hew/hew/Message$Field" "keyAndValue" "Ljava/util/List;" (.ref kv)) : Con false [] l Z (⟨"com/example/hew/hew/Message$Field", "isMap", "()Z"⟩ : MethodName) prog_28_method_10_code 1 (some .boolean) [] ({ frames := 0, cells := 0, slots := 0, locals := 0 } : Room) #[(.ref a)] h0 [] (rvl (Q_ismapR Z a kv h0)) := by
  refine con_of (a0 := a0) (plainFor_of_name pn13) (fun q => rfl) EW.nil O0 (fun m => ef_ismapR m a) ?_
  intro p_ e_ s_ m_ below_ meth_ c_ hby hml hret hlk hnm
  refine go_aload_n (pc' := 1) (hb hby d22_0) rfl rfl rfl ?_
  refine go_getF (pc' := 4) (wk G 95 rfl) Via.refl p1 (hb hby d22_1) rfl ?_
  refine go_nullF (pc' := 7) (hb hby d22_4) rfl ?_
  refine go_iconst (pc' := 8) (v := 1) (hb hby d22_7) rfl rfl ?_
  refine go_goto (pc' := 12) (hb hby d22_8) (by decide) rfl ?_
  refine go_ireturn hret hlk rfl (by simp) (hb hby d22_12) (by decide) (by decide) ⟨_, rfl, ⟨rfl, rfl⟩⟩ (Keep.refl h0 [])
theorem ef_law (m : MethodId) (x0 : Int32) (x1 : Int32) (x2 : Int32) (x3 : Int32) (x4 : Int32) (x5 : Int32)  : entryFrame m #[(.int x0), (.int x1), (.int x2), (.int x3), (.int x4), (.int x5)] maxLocals = mkF m 0 #[.val (.int x0), .val (.int x1), .val (.int x2), .val (.int x3), .val (.int x4), .val (.int x5), .unset, .unset, .unset, .unset, .unset, .unset, .unset, .unset, .unset, .unset] [] := by first | (simp [entryFrame, mkF, argsToLocals, Value.category, maxLocals]; done) | rfl
def Q_law (Z : State) (x0 : Int32) (x1 : Int32) (x2 : Int32) (x3 : Int32) (x4 : Int32) (x5 : Int32)  (h0 : Heap) (xv : Value) (h : Heap) : Prop := (.int (1 : Int32)) = xv
set_option maxRecDepth 65536 in
set_option maxHeartbeats 40000000 in
theorem c_law (l : Launch) {Z : State} {a0 : Array Value} (G : GH Z a0) (x0 : Int32) (x1 : Int32) (x2 : Int32) (x3 : Int32) (x4 : Int32) (x5 : Int32)  (h0 : Heap) (O0 : Old Z Z.heap.size h0)  : Con true EL1 l Z x code maxLocals ret tables_1 room_1 #[(.int x0), (.int x1), (.int x2), (.int x3), (.int x4), (.int x5)] h0 [] (rvl (Q_law Z x0 x1 x2 x3 x4 x5 h0)) := by
  refine con_of (a0 := a0) (plainFor_of_name pn4) (fun q => nomatch q) (ew1 G) O0 (fun m => ef_law m x0 x1 x2 x3 x4 x5) ?_
  intro p_ e_ s_ m_ below_ meth_ c_ hby hml hret hlk hnm
  refine go_iload_n (pc' := 1) (hb hby at_0) rfl rfl ?_
  refine go_iconst (pc' := 2) (v := 1) (hb hby at_1) rfl rfl ?_
  refine go_iand (pc' := 3) (z := (x0 &&& (1 : Int32))) (hb hby at_2) rfl rfl ?_
  by_cases c1 : (x0 &&& (1 : Int32)) = (0 : Int32)
  · refine go_ifT (pc' := 10) (hb hby at_3) (by decide) rfl (XT.i0_eq_t c1) ?_
    refine go_iconst (pc' := 11) (v := 0) (hb hby at_10) rfl rfl ?_
    refine go_istore (pc' := 13) (ls' := #[.val (.int x0), .val (.int x1), .val (.int x2), .val (.int x3), .val (.int x4), .val (.int x5), .val (.int (0 : Int32)), .unset, .unset, .unset, .unset, .unset, .unset, .unset, .unset, .unset]) (hb hby at_11) rfl rfl ?_
    refine go_iload_n (pc' := 14) (hb hby at_13) rfl rfl ?_
    refine go_iconst (pc' := 15) (v := 2) (hb hby at_14) rfl rfl ?_
    refine go_iand (pc' := 16) (z := (x0 &&& (2 : Int32))) (hb hby at_15) rfl rfl ?_
    by_cases c2 : (x0 &&& (2 : Int32)) = (0 : Int32)
    · refine go_ifT (pc' := 23) (hb hby at_16) (by decide) rfl (XT.i0_eq_t c2) ?_
      refine go_iconst (pc' := 24) (v := 0) (hb hby at_23) rfl rfl ?_
      refine go_istore (pc' := 26) (ls' := #[.val (.int x0), .val (.int x1), .val (.int x2), .val (.int x3), .val (.int x4), .val (.int x5), .val (.int (0 : Int32)), .val (.int (0 : Int32)), .unset, .unset, .unset, .unset, .unset, .unset, .unset, .unset]) (hb hby at_24) rfl rfl ?_
      refine go_iload_n (pc' := 27) (hb hby at_26) rfl rfl ?_
      refine go_iconst (pc' := 28) (v := 2) (hb hby at_27) rfl rfl ?_
      refine go_iushr (pc' := 29) (z := (XT.ushr x0 (2 : Int32))) (hb hby at_28) rfl rfl ?_
      refine go_ldcI (pc' := 31) (v := (2147483647 : Int32)) (wk G 0 rfl) (hb hby at_29) rfl ?_
      refine go_iand (pc' := 32) (z := ((XT.ushr x0 (2 : Int32)) &&& (2147483647 : Int32))) (hb hby at_31) rfl rfl ?_
      refine go_iconst (pc' := 33) (v := 3) (hb hby at_32) rfl rfl ?_
      refine go_irem (pc' := 34) (z := (((XT.ushr x0 (2 : Int32)) &&& (2147483647 : Int32)) % (3 : Int32))) (hb hby at_33) rfl (by decide) rfl ?_
      refine go_istore (pc' := 36) (ls' := #[.val (.int x0), .val (.int x1), .val (.int x2), .val (.int x3), .val (.int x4), .val (.int x5), .val (.int (0 : Int32)), .val (.int (0 : Int32)), .val (.int (((XT.ushr x0 (2 : Int32)) &&& (2147483647 : Int32)) % (3 : Int32))), .unset, .unset, .unset, .unset, .unset, .unset, .unset]) (hb hby at_34) rfl rfl ?_
      refine go_iload_n (pc' := 37) (hb hby at_36) rfl rfl ?_
      refine callS0 (cells' := 0) (slots' := 0) (Wd := 0) (argsL := [(.int x1)]) (rest := []) (pay_of (a0 := a0) (c_kindof l G x1 h0 O0 ) (wk G 4 rfl) (wk G 3 rfl) (by decide) (by decide)) (wk G 1 rfl) (wk G 2 rfl) (wk G 3 rfl) (wk G 4 rfl) (by decide) pd13 rfl rfl (by rw [hml]; rfl) (Nat.le_of_ble_eq_true rfl) rfl rfl (by decide) (by decide) all0 (fun _ _ => sf0) (hb hby at_37) (k_v (pc' := 40) rfl ?_)
      rintro _ h3 ⟨r5, rfl, rfl, f6⟩ K4
      refine go_astore (pc' := 42) (ls' := #[.val (.int x0), .val (.int x1), .val (.int x2), .val (.int x3), .val (.int x4), .val (.int x5), .val (.int (0 : Int32)), .val (.int (0 : Int32)), .val (.int (((XT.ushr x0 (2 : Int32)) &&& (2147483647 : Int32)) % (3 : Int32))), .val (.ref r5), .unset, .unset, .unset, .unset, .unset, .unset]) (hb hby at_40) rfl rfl rfl ?_
      refine go_iconst (pc' := 43) (v := 1) (hb hby at_42) rfl rfl ?_
      refine go_newP (pc' := 45) (cells' := 1) (slots' := 1) (cap := 1) (vs := [(.int (0 : Int32))]) (ty := .char) (dv := .int 0) (wk G 8 rfl) rfl rfl (hb hby at_43) rfl (by decide) rfl (by decide) rfl rfl rfl (by decide) (by decide) (fun h7 a8 k12 g9 X10 A11 => ?_)
      refine go_dup (pc' := 46) (hb hby at_45) rfl rfl ?_
      refine go_iconst (pc' := 47) (v := 0) (hb hby at_46) rfl rfl ?_
      refine go_iload_n (pc' := 48) (hb hby at_47) rfl rfl ?_
      refine go_sipush (pc' := 51) (v := 255) (hb hby at_48) rfl rfl ?_
      refine go_iand (pc' := 52) (z := (x2 &&& (255 : Int32))) (hb hby at_51) rfl rfl ?_
      refine go_i2c (pc' := 53) (z := (x2 &&& (255 : Int32))) (hb hby at_52) rfl (i2c_mask _) ?_
      refine go_stC (pc' := 54) (i := 0) (x' := (x2 &&& (255 : Int32))) (vs' := [(.int (x2 &&& (255 : Int32)))]) A11 (Nat.le_trans O0.2.1 (Nat.le_of_eq g9)) (by decide) (by decide) rfl (Nat.le_of_ble_eq_true rfl) (i2c_mask _) rfl (hb hby at_53) rfl (fun h13 W14 A15 => ?_)
      refine go_astore (pc' := 56) (ls' := #[.val (.int x0), .val (.int x1), .val (.int x2), .val (.int x3), .val (.int x4), .val (.int x5), .val (.int (0 : Int32)), .val (.int (0 : Int32)), .val (.int (((XT.ushr x0 (2 : Int32)) &&& (2147483647 : Int32)) % (3 : Int32))), .val (.ref r5), .val (.ref a8), .unset, .unset, .unset, .unset, .unset]) (hb hby at_54) rfl rfl rfl ?_
      refine go_newO (pc' := 59) (cells' := 2) (slots' := 5) (wk G 9 rfl) (wk G 10 rfl) (wk G 11 rfl) (hb hby at_56) rfl rfl rfl (by decide) (by decide) (fun h16 a17 g18 X19 E20 D21 U22 => ?_)
      refine go_dup (pc' := 60) (hb hby at_59) rfl rfl ?_
      refine go_aload (pc' := 62) (hb hby at_60) rfl rfl rfl ?_
      have F23 := D21 (Or.inr (wk G 37 rfl)) (ty := (.array .byte)) (by decide)
      have F24 := D21 (Or.inr (wk G 35 rfl)) (ty := .byte) (by decide)
      have K25 : Keep h13 h16 [] := ((Keep.refl h13 []).ext X19)
      have A26 := (A15.keep K25 nin0)
      refine go_old (fun O27 => ?_)
      have K28 : Keep h0 h7 [] := ((Keep.refl h0 []).ext X10)
      have K29 : Keep h0 h13 [] := (K28.wr W14 (Or.inr (Nat.le_of_eq g9)))
      refine callI0 (cells' := 3) (slots' := 6) (Wd := 1) (argsL := [(.ref a8)]) (rest := [(.ref a17)]) (pay_new G O27 (cs := [(x2 &&& (255 : Int32))]) (n := 1) (Nat.le_trans O0.2.1 (Nat.le_trans K29.1 (Nat.le_of_eq g18))) E20 F23 F24 A26 rfl rfl (by decide) (by decide) (c8c (c8_m _) c8n) (by decide) (by decide)) rfl (wk G 12 rfl) (wk G 13 rfl) (wk G 14 rfl) (by decide) pd14 rfl rfl (by rw [hml]; rfl) (Nat.le_of_ble_eq_true rfl) rfl rfl (by decide) (by decide) (allS (Nat.le_trans O0.2.1 (Nat.le_trans K29.1 (Nat.le_of_eq g18))) all0) (fun _ hal => (sfS (safe_null hal E20 F23) sf0)) (hb hby at_62) (k_n (pc' := 65) rfl ?_)
      rintro h30 S32 K31
      refine go_astore (pc' := 67) (ls' := #[.val (.int x0), .val (.int x1), .val (.int x2), .val (.int x3), .val (.int x4), .val (.int x5), .val (.int (0 : Int32)), .val (.int (0 : Int32)), .val (.int (((XT.ushr x0 (2 : Int32)) &&& (2147483647 : Int32)) % (3 : Int32))), .val (.ref r5), .val (.ref a8), .val (.ref a17), .unset, .unset, .unset, .unset]) (hb hby at_65) rfl rfl rfl ?_
      refine go_iload_n (pc' := 68) (hb hby at_67) rfl rfl ?_
      refine go_sipush (pc' := 71) (v := 255) (hb hby at_68) rfl rfl ?_
      refine go_iand (pc' := 72) (z := (x3 &&& (255 : Int32))) (hb hby at_71) rfl rfl ?_
      refine go_i2c (pc' := 73) (z := (x3 &&& (255 : Int32))) (hb hby at_72) rfl (i2c_mask _) ?_
      refine go_old (fun O33 => ?_)
      refine callS0 (cells' := 5) (slots' := 11) (Wd := 0) (argsL := [(.int (x3 &&& (255 : Int32)))]) (rest := []) (pay_of (a0 := a0) (c_valueof l G (x3 &&& (255 : Int32)) h30 O33 (c8_m _)) (wk G 40 rfl) (wk G 11 rfl) (by decide) (by decide)) (wk G 38 rfl) (wk G 39 rfl) (wk G 11 rfl) (wk G 40 rfl) (by decide) pd15 rfl rfl (by rw [hml]; rfl) (Nat.le_of_ble_eq_true rfl) rfl rfl (by decide) (by decide) all0 (fun _ _ => sf0) (hb hby at_73) (k_v (pc' := 76) rfl ?_)
      rintro _ h34 ⟨r36, rfl, f37, f38⟩ K35
      refine go_astore (pc' := 78) (ls' := #[.val (.int x0), .val (.int x1), .val (.int x2), .val (.int x3), .val (.int x4), .val (.int x5), .val (.int (0 : Int32)), .val (.int (0 : Int32)), .val (.int (((XT.ushr x0 (2 : Int32)) &&& (2147483647 : Int32)) % (3 : Int32))), .val (.ref r5), .val (.ref a8), .val (.ref a17), .val (.ref r36), .unset, .unset, .unset]) (hb hby at_76) rfl rfl rfl ?_
      refine go_aconst_null (pc' := 79) (hb hby at_78) rfl ?_
      refine go_astore (pc' := 81) (ls' := #[.val (.int x0), .val (.int x1), .val (.int x2), .val (.int x3), .val (.int x4), .val (.int x5), .val (.int (0 : Int32)), .val (.int (0 : Int32)), .val (.int (((XT.ushr x0 (2 : Int32)) &&& (2147483647 : Int32)) % (3 : Int32))), .val (.ref r5), .val (.ref a8), .val (.ref a17), .val (.ref r36), .val .null, .unset, .unset]) (hb hby at_79) rfl rfl rfl ?_
      refine go_iload (pc' := 83) (hb hby at_81) rfl rfl ?_
      refine go_ifT (pc' := 123) (hb hby at_83) (by decide) rfl (by decide) ?_
      refine go_newO (pc' := 126) (cells' := 6) (slots' := 14) (wk G 52 rfl) (wk G 53 rfl) (wk G 54 rfl) (hb hby at_123) rfl rfl rfl (by decide) (by decide) (fun h39 a40 g41 X42 E43 D44 U45 => ?_)
      refine go_dup (pc' := 127) (hb hby at_126) rfl rfl ?_
      refine go_aload (pc' := 129) (hb hby at_127) rfl rfl rfl ?_
      refine go_iload (pc' := 131) (hb hby at_129) rfl rfl ?_
      refine go_iload (pc' := 133) (hb hby at_131) rfl rfl ?_
      have K46 : Keep h0 h16 [] := (K29.ext X19)
      have K47 : Keep h0 h30 [] := (K46.trans K31 (allS (Or.inr (Nat.le_trans K29.1 (Nat.le_of_eq g18))) all0))
      have K48 : Keep h0 h34 [] := (K47.trans K35 all0)
      have E49 := (((E20.keep K31).keep K35).ext X42)
      have F50 := D44 (Or.inr (wk G 68 rfl)) (ty := (.object "java/lang/String")) (by decide)
      have F51 := D44 (Or.inr (wk G 70 rfl)) (ty := .int) (by decide)
      have F52 := D44 (Or.inr (wk G 72 rfl)) (ty := .int) (by decide)
      refine go_old (fun O53 => ?_)
      refine callIW0 rfl (cells' := 8) (slots' := 34) (Wd := 1) (argsL := [(.ref a17), (.int x4), (.int x5)]) (rest := [(.ref a40)]) (payW_of (a0 := a0) (c_plinit l G a40 a17 x4 x5 h39 O53 E43 (Nat.le_trans O0.2.1 (Nat.le_trans K48.1 (Nat.le_of_eq g41))) E49 F50 F51 F52) (wk G 57 rfl) (wk G 54 rfl) (by decide) (by decide) (ew1 G)) rfl (wk G 55 rfl) (wk G 56 rfl) (wk G 57 rfl) (by decide) pd16 rfl rfl (by rw [hml]; rfl) (Nat.le_of_ble_eq_true rfl) rfl rfl (by decide) (by decide) (allS (Nat.le_trans O0.2.1 (Nat.le_trans K48.1 (Nat.le_of_eq g41))) all0) (hb hby at_133) (k_n (pc' := 136) rfl ?_)
      rintro  h54 - K55
      refine go_astore (pc' := 138) (ls' := #[.val (.int x0), .val (.int x1), .val (.int x2), .val (.int x3), .val (.int x4), .val (.int x5), .val (.int (0 : Int32)), .val (.int (0 : Int32)), .val (.int (((XT.ushr x0 (2 : Int32)) &&& (2147483647 : Int32)) % (3 : Int32))), .val (.ref r5), .val (.ref a8), .val (.ref a17), .val (.ref r36), .val .null, .val (.ref a40), .unset]) (hb hby at_136) rfl rfl rfl ?_
      refine go_newO (pc' := 141) (cells' := 9) (slots' := 43) (wk G 73 rfl) (wk G 74 rfl) (wk G 75 rfl) (hb hby at_138) rfl rfl rfl (by decide) (by decide) (fun h56 a57 g58 X59 E60 D61 U62 => ?_)
      refine go_dup (pc' := 142) (hb hby at_141) rfl rfl ?_
      refine go_aload (pc' := 144) (hb hby at_142) rfl rfl rfl ?_
      refine go_aload (pc' := 146) (hb hby at_144) rfl rfl rfl ?_
      refine go_aload (pc' := 148) (hb hby at_146) rfl rfl rfl ?_
      refine go_iload (pc' := 150) (hb hby at_148) rfl rfl ?_
      refine go_aload (pc' := 152) (hb hby at_150) rfl rfl rfl ?_
      refine go_aload (pc' := 154) (hb hby at_152) rfl rfl rfl ?_
      have K63 : Keep h0 h39 [] := (K48.ext X42)
      have K64 : Keep h0 h54 [] := (K63.trans K55 (allS (Or.inr (Nat.le_trans K48.1 (Nat.le_of_eq g41))) all0))
      have E65 := ((E49.keep K55).ext X59)
      have K66 : Keep h34 h39 [] := ((Keep.refl h34 []).ext X42)
      have K67 : Keep h34 h54 [] := (K66.trans K55 (allS (Or.inr (Nat.le_of_eq g41)) all0))
      have K68 : Keep h34 h56 [] := (K67.ext X59)
      have E69 := (f38.exa.keep K68)
      have K70 : Keep h0 h56 [] := (K64.ext X59)
      have E71 := (f6.keep K70)
      have E72 := ((E43.keep K55).ext X59)
      have F73 := D61 (Or.inr (wk G 84 rfl)) (ty := (.object "java/lang/String")) (by decide)
      have F74 := D61 (Or.inr (wk G 87 rfl)) (ty := (.object "java/lang/String")) (by decide)
      have F75 := D61 (Or.inr (wk G 92 rfl)) (ty := (.object "com/example/hew/hew/Message$Field$Kind")) (by decide)
      have F76 := D61 (Or.inr (wk G 94 rfl)) (ty := .boolean) (by decide)
      have F77 := D61 (Or.inr (wk G 96 rfl)) (ty := (.object "java/util/List")) (by decide)
      have F78 := D61 (Or.inr (wk G 137 rfl)) (ty := (.object "java/util/List")) (by decide)
      have F79 := D61 (Or.inr (wk G 142 rfl)) (ty := (.object "com/example/hew/hew/Place")) (by decide)
      refine go_old (fun O80 => ?_)
      refine callIW0 rfl (cells' := 18) (slots' := 129) (Wd := 1) (argsL := [(.ref a17), (.ref r36), (.ref r5), (.int (0 : Int32)), .null, (.ref a40)]) (rest := [(.ref a57)]) (payW_of (a0 := a0) (c_fdinitN l G a57 a17 r36 r5 (0 : Int32) a40 h56 O80 E60 (Nat.le_trans O0.2.1 (Nat.le_trans K64.1 (Nat.le_of_eq g58))) E65 E69 E71 E72 (⟨rfl, by decide⟩) F73 F74 F75 F76 F77 F78 F79) (wk G 78 rfl) (wk G 75 rfl) (by decide) (by decide) (ew1 G)) rfl (wk G 76 rfl) (wk G 77 rfl) (wk G 78 rfl) (by decide) pd17 rfl rfl (by rw [hml]; rfl) (Nat.le_of_ble_eq_true rfl) rfl rfl (by decide) (by decide) (allS (Nat.le_trans O0.2.1 (Nat.le_trans K64.1 (Nat.le_of_eq g58))) all0) (hb hby at_154) (k_n (pc' := 157) rfl ?_)
      rintro  h81 f83 K82
      refine go_astore (pc' := 159) (ls' := #[.val (.int x0), .val (.int x1), .val (.int x2), .val (.int x3), .val (.int x4), .val (.int x5), .val (.int (0 : Int32)), .val (.int (0 : Int32)), .val (.int (((XT.ushr x0 (2 : Int32)) &&& (2147483647 : Int32)) % (3 : Int32))), .val (.ref r5), .val (.ref a8), .val (.ref a17), .val (.ref r36), .val .null, .val (.ref a40), .val (.ref a57)]) (hb hby at_157) rfl rfl rfl ?_
      refine go_aload (pc' := 161) (hb hby at_159) rfl rfl rfl ?_
      refine go_old (fun O84 => ?_)
      have E85 := (E60.keep K82)
      refine callV0 (cells' := 18) (slots' := 129) (Wd := 0) (argsL := []) (rest := []) (pay_of (a0 := a0) (c_ismapN l G a57 h81 O84 f83) (wk G 147 rfl) (wk G 75 rfl) (by decide) (by decide)) E85 (wk G 143 rfl) (wk G 144 rfl) (wk G 146 rfl) (wk G 146 rfl) (wk G 145 rfl) (by decide) pd18 rfl rfl (by rw [hml]; rfl) (Nat.le_of_ble_eq_true rfl) rfl rfl (by decide) (by decide) all0 (fun _ _ => sf0) (hb hby at_161) (k_v (pc' := 164) rfl ?_)
      rintro _ h86 ⟨rfl, rfl⟩ K87
      refine go_iload (pc' := 166) (hb hby at_164) rfl rfl ?_
      refine go_icF (pc' := 169) (hb hby at_166) rfl (by decide) ?_
      refine go_iconst (pc' := 170) (v := 1) (hb hby at_169) rfl rfl ?_
      refine go_goto (pc' := 174) (hb hby at_170) (by decide) rfl ?_
      have K88 : Keep h0 h81 [] := (K70.trans K82 (allS (Or.inr (Nat.le_trans K64.1 (Nat.le_of_eq g58))) all0))
      refine go_ireturn hret hlk rfl (by simp) (hb hby at_174) (by decide) (by decide) ⟨_, rfl, rfl⟩ K88
    · refine go_ifF (pc' := 19) (hb hby at_16) rfl (XT.i0_eq_f c2) ?_
      refine go_iconst (pc' := 20) (v := 1) (hb hby at_19) rfl rfl ?_
      refine go_goto (pc' := 24) (hb hby at_20) (by decide) rfl ?_
      refine go_istore (pc' := 26) (ls' := #[.val (.int x0), .val (.int x1), .val (.int x2), .val (.int x3), .val (.int x4), .val (.int x5), .val (.int (0 : Int32)), .val (.int (1 : Int32)), .unset, .unset, .unset, .unset, .unset, .unset, .unset, .unset]) (hb hby at_24) rfl rfl ?_
      refine go_iload_n (pc' := 27) (hb hby at_26) rfl rfl ?_
      refine go_iconst (pc' := 28) (v := 2) (hb hby at_27) rfl rfl ?_
      refine go_iushr (pc' := 29) (z := (XT.ushr x0 (2 : Int32))) (hb hby at_28) rfl rfl ?_
      refine go_ldcI (pc' := 31) (v := (2147483647 : Int32)) (wk G 0 rfl) (hb hby at_29) rfl ?_
      refine go_iand (pc' := 32) (z := ((XT.ushr x0 (2 : Int32)) &&& (2147483647 : Int32))) (hb hby at_31) rfl rfl ?_
      refine go_iconst (pc' := 33) (v := 3) (hb hby at_32) rfl rfl ?_
      refine go_irem (pc' := 34) (z := (((XT.ushr x0 (2 : Int32)) &&& (2147483647 : Int32)) % (3 : Int32))) (hb hby at_33) rfl (by decide) rfl ?_
      refine go_istore (pc' := 36) (ls' := #[.val (.int x0), .val (.int x1), .val (.int x2), .val (.int x3), .val (.int x4), .val (.int x5), .val (.int (0 : Int32)), .val (.int (1 : Int32)), .val (.int (((XT.ushr x0 (2 : Int32)) &&& (2147483647 : Int32)) % (3 : Int32))), .unset, .unset, .unset, .unset, .unset, .unset, .unset]) (hb hby at_34) rfl rfl ?_
      refine go_iload_n (pc' := 37) (hb hby at_36) rfl rfl ?_
      refine callS0 (cells' := 0) (slots' := 0) (Wd := 0) (argsL := [(.int x1)]) (rest := []) (pay_of (a0 := a0) (c_kindof l G x1 h0 O0 ) (wk G 4 rfl) (wk G 3 rfl) (by decide) (by decide)) (wk G 1 rfl) (wk G 2 rfl) (wk G 3 rfl) (wk G 4 rfl) (by decide) pd13 rfl rfl (by rw [hml]; rfl) (Nat.le_of_ble_eq_true rfl) rfl rfl (by decide) (by decide) all0 (fun _ _ => sf0) (hb hby at_37) (k_v (pc' := 40) rfl ?_)
      rintro _ h89 ⟨r91, rfl, rfl, f92⟩ K90
      refine go_astore (pc' := 42) (ls' := #[.val (.int x0), .val (.int x1), .val (.int x2), .val (.int x3), .val (.int x4), .val (.int x5), .val (.int (0 : Int32)), .val (.int (1 : Int32)), .val (.int (((XT.ushr x0 (2 : Int32)) &&& (2147483647 : Int32)) % (3 : Int32))), .val (.ref r91), .unset, .unset, .unset, .unset, .unset, .unset]) (hb hby at_40) rfl rfl rfl ?_
      refine go_iconst (pc' := 43) (v := 1) (hb hby at_42) rfl rfl ?_
      refine go_newP (pc' := 45) (cells' := 1) (slots' := 1) (cap := 1) (vs := [(.int (0 : Int32))]) (ty := .char) (dv := .int 0) (wk G 8 rfl) rfl rfl (hb hby at_43) rfl (by decide) rfl (by decide) rfl rfl rfl (by decide) (by decide) (fun h93 a94 k98 g95 X96 A97 => ?_)
      refine go_dup (pc' := 46) (hb hby at_45) rfl rfl ?_
      refine go_iconst (pc' := 47) (v := 0) (hb hby at_46) rfl rfl ?_
      refine go_iload_n (pc' := 48) (hb hby at_47) rfl rfl ?_
      refine go_sipush (pc' := 51) (v := 255) (hb hby at_48) rfl rfl ?_
      refine go_iand (pc' := 52) (z := (x2 &&& (255 : Int32))) (hb hby at_51) rfl rfl ?_
      refine go_i2c (pc' := 53) (z := (x2 &&& (255 : Int32))) (hb hby at_52) rfl (i2c_mask _) ?_
      refine go_stC (pc' := 54) (i := 0) (x' := (x2 &&& (255 : Int32))) (vs' := [(.int (x2 &&& (255 : Int32)))]) A97 (Nat.le_trans O0.2.1 (Nat.le_of_eq g95)) (by decide) (by decide) rfl (Nat.le_of_ble_eq_true rfl) (i2c_mask _) rfl (hb hby at_53) rfl (fun h99 W100 A101 => ?_)
      refine go_astore (pc' := 56) (ls' := #[.val (.int x0), .val (.int x1), .val (.int x2), .val (.int x3), .val (.int x4), .val (.int x5), .val (.int (0 : Int32)), .val (.int (1 : Int32)), .val (.int (((XT.ushr x0 (2 : Int32)) &&& (2147483647 : Int32)) % (3 : Int32))), .val (.ref r91), .val (.ref a94), .unset, .unset, .unset, .unset, .unset]) (hb hby at_54) rfl rfl rfl ?_
      refine go_newO (pc' := 59) (cells' := 2) (slots' := 5) (wk G 9 rfl) (wk G 10 rfl) (wk G 11 rfl) (hb hby at_56) rfl rfl rfl (by decide) (by decide) (fun h102 a103 g104 X105 E106 D107 U108 => ?_)
      refine go_dup (pc' := 60) (hb hby at_59) rfl rfl ?_
      refine go_aload (pc' := 62) (hb hby at_60) rfl rfl rfl ?_
      have F109 := D107 (Or.inr (wk G 37 rfl)) (ty := (.array .byte)) (by decide)
      have F110 := D107 (Or.inr (wk G 35 rfl)) (ty := .byte) (by decide)
      have K111 : Keep h99 h102 [] := ((Keep.refl h99 []).ext X105)
      have A112 := (A101.keep K111 nin0)
      refine go_old (fun O113 => ?_)
      have K114 : Keep h0 h93 [] := ((Keep.refl h0 []).ext X96)
      have K115 : Keep h0 h99 [] := (K114.wr W100 (Or.inr (Nat.le_of_eq g95)))
      refine callI0 (cells' := 3) (slots' := 6) (Wd := 1) (argsL := [(.ref a94)]) (rest := [(.ref a103)]) (pay_new G O113 (cs := [(x2 &&& (255 : Int32))]) (n := 1) (Nat.le_trans O0.2.1 (Nat.le_trans K115.1 (Nat.le_of_eq g104))) E106 F109 F110 A112 rfl rfl (by decide) (by decide) (c8c (c8_m _) c8n) (by decide) (by decide)) rfl (wk G 12 rfl) (wk G 13 rfl) (wk G 14 rfl) (by decide) pd14 rfl rfl (by rw [hml]; rfl) (Nat.le_of_ble_eq_true rfl) rfl rfl (by decide) (by decide) (allS (Nat.le_trans O0.2.1 (Nat.le_trans K115.1 (Nat.le_of_eq g104))) all0) (fun _ hal => (sfS (safe_null hal E106 F109) sf0)) (hb hby at_62) (k_n (pc' := 65) rfl ?_)
      rintro h116 S118 K117
      refine go_astore (pc' := 67) (ls' := #[.val (.int x0), .val (.int x1), .val (.int x2), .val (.int x3), .val (.int x4), .val (.int x5), .val (.int (0 : Int32)), .val (.int (1 : Int32)), .val (.int (((XT.ushr x0 (2 : Int32)) &&& (2147483647 : Int32)) % (3 : Int32))), .val (.ref r91), .val (.ref a94), .val (.ref a103), .unset, .unset, .unset, .unset]) (hb hby at_65) rfl rfl rfl ?_
      refine go_iload_n (pc' := 68) (hb hby at_67) rfl rfl ?_
      refine go_sipush (pc' := 71) (v := 255) (hb hby at_68) rfl rfl ?_
      refine go_iand (pc' := 72) (z := (x3 &&& (255 : Int32))) (hb hby at_71) rfl rfl ?_
      refine go_i2c (pc' := 73) (z := (x3 &&& (255 : Int32))) (hb hby at_72) rfl (i2c_mask _) ?_
      refine go_old (fun O119 => ?_)
      refine callS0 (cells' := 5) (slots' := 11) (Wd := 0) (argsL := [(.int (x3 &&& (255 : Int32)))]) (rest := []) (pay_of (a0 := a0) (c_valueof l G (x3 &&& (255 : Int32)) h116 O119 (c8_m _)) (wk G 40 rfl) (wk G 11 rfl) (by decide) (by decide)) (wk G 38 rfl) (wk G 39 rfl) (wk G 11 rfl) (wk G 40 rfl) (by decide) pd15 rfl rfl (by rw [hml]; rfl) (Nat.le_of_ble_eq_true rfl) rfl rfl (by decide) (by decide) all0 (fun _ _ => sf0) (hb hby at_73) (k_v (pc' := 76) rfl ?_)
      rintro _ h120 ⟨r122, rfl, f123, f124⟩ K121
      refine go_astore (pc' := 78) (ls' := #[.val (.int x0), .val (.int x1), .val (.int x2), .val (.int x3), .val (.int x4), .val (.int x5), .val (.int (0 : Int32)), .val (.int (1 : Int32)), .val (.int (((XT.ushr x0 (2 : Int32)) &&& (2147483647 : Int32)) % (3 : Int32))), .val (.ref r91), .val (.ref a94), .val (.ref a103), .val (.ref r122), .unset, .unset, .unset]) (hb hby at_76) rfl rfl rfl ?_
      refine go_aconst_null (pc' := 79) (hb hby at_78) rfl ?_
      refine go_astore (pc' := 81) (ls' := #[.val (.int x0), .val (.int x1), .val (.int x2), .val (.int x3), .val (.int x4), .val (.int x5), .val (.int (0 : Int32)), .val (.int (1 : Int32)), .val (.int (((XT.ushr x0 (2 : Int32)) &&& (2147483647 : Int32)) % (3 : Int32))), .val (.ref r91), .val (.ref a94), .val (.ref a103), .val (.ref r122), .val .null, .unset, .unset]) (hb hby at_79) rfl rfl rfl ?_
      refine go_iload (pc' := 83) (hb hby at_81) rfl rfl ?_
      refine go_ifT (pc' := 123) (hb hby at_83) (by decide) rfl (by decide) ?_
      refine go_newO (pc' := 126) (cells' := 6) (slots' := 14) (wk G 52 rfl) (wk G 53 rfl) (wk G 54 rfl) (hb hby at_123) rfl rfl rfl (by decide) (by decide) (fun h125 a126 g127 X128 E129 D130 U131 => ?_)
      refine go_dup (pc' := 127) (hb hby at_126) rfl rfl ?_
      refine go_aload (pc' := 129) (hb hby at_127) rfl rfl rfl ?_
      refine go_iload (pc' := 131) (hb hby at_129) rfl rfl ?_
      refine go_iload (pc' := 133) (hb hby at_131) rfl rfl ?_
      have K132 : Keep h0 h102 [] := (K115.ext X105)
      have K133 : Keep h0 h116 [] := (K132.trans K117 (allS (Or.inr (Nat.le_trans K115.1 (Nat.le_of_eq g104))) all0))
      have K134 : Keep h0 h120 [] := (K133.trans K121 all0)
      have E135 := (((E106.keep K117).keep K121).ext X128)
      have F136 := D130 (Or.inr (wk G 68 rfl)) (ty := (.object "java/lang/String")) (by decide)
      have F137 := D130 (Or.inr (wk G 70 rfl)) (ty := .int) (by decide)
      have F138 := D130 (Or.inr (wk G 72 rfl)) (ty := .int) (by decide)
      refine go_old (fun O139 => ?_)
      refine callIW0 rfl (cells' := 8) (slots' := 34) (Wd := 1) (argsL := [(.ref a103), (.int x4), (.int x5)]) (rest := [(.ref a126)]) (payW_of (a0 := a0) (c_plinit l G a126 a103 x4 x5 h125 O139 E129 (Nat.le_trans O0.2.1 (Nat.le_trans K134.1 (Nat.le_of_eq g127))) E135 F136 F137 F138) (wk G 57 rfl) (wk G 54 rfl) (by decide) (by decide) (ew1 G)) rfl (wk G 55 rfl) (wk G 56 rfl) (wk G 57 rfl) (by decide) pd16 rfl rfl (by rw [hml]; rfl) (Nat.le_of_ble_eq_true rfl) rfl rfl (by decide) (by decide) (allS (Nat.le_trans O0.2.1 (Nat.le_trans K134.1 (Nat.le_of_eq g127))) all0) (hb hby at_133) (k_n (pc' := 136) rfl ?_)
      rintro  h140 - K141
      refine go_astore (pc' := 138) (ls' := #[.val (.int x0), .val (.int x1), .val (.int x2), .val (.int x3), .val (.int x4), .val (.int x5), .val (.int (0 : Int32)), .val (.int (1 : Int32)), .val (.int (((XT.ushr x0 (2 : Int32)) &&& (2147483647 : Int32)) % (3 : Int32))), .val (.ref r91), .val (.ref a94), .val (.ref a103), .val (.ref r122), .val .null, .val (.ref a126), .unset]) (hb hby at_136) rfl rfl rfl ?_
      refine go_newO (pc' := 141) (cells' := 9) (slots' := 43) (wk G 73 rfl) (wk G 74 rfl) (wk G 75 rfl) (hb hby at_138) rfl rfl rfl (by decide) (by decide) (fun h142 a143 g144 X145 E146 D147 U148 => ?_)
      refine go_dup (pc' := 142) (hb hby at_141) rfl rfl ?_
      refine go_aload (pc' := 144) (hb hby at_142) rfl rfl rfl ?_
      refine go_aload (pc' := 146) (hb hby at_144) rfl rfl rfl ?_
      refine go_aload (pc' := 148) (hb hby at_146) rfl rfl rfl ?_
      refine go_iload (pc' := 150) (hb hby at_148) rfl rfl ?_
      refine go_aload (pc' := 152) (hb hby at_150) rfl rfl rfl ?_
      refine go_aload (pc' := 154) (hb hby at_152) rfl rfl rfl ?_
      have K149 : Keep h0 h125 [] := (K134.ext X128)
      have K150 : Keep h0 h140 [] := (K149.trans K141 (allS (Or.inr (Nat.le_trans K134.1 (Nat.le_of_eq g127))) all0))
      have E151 := ((E135.keep K141).ext X145)
      have K152 : Keep h120 h125 [] := ((Keep.refl h120 []).ext X128)
      have K153 : Keep h120 h140 [] := (K152.trans K141 (allS (Or.inr (Nat.le_of_eq g127)) all0))
      have K154 : Keep h120 h142 [] := (K153.ext X145)
      have E155 := (f124.exa.keep K154)
      have K156 : Keep h0 h142 [] := (K150.ext X145)
      have E157 := (f92.keep K156)
      have E158 := ((E129.keep K141).ext X145)
      have F159 := D147 (Or.inr (wk G 84 rfl)) (ty := (.object "java/lang/String")) (by decide)
      have F160 := D147 (Or.inr (wk G 87 rfl)) (ty := (.object "java/lang/String")) (by decide)
      have F161 := D147 (Or.inr (wk G 92 rfl)) (ty := (.object "com/example/hew/hew/Message$Field$Kind")) (by decide)
      have F162 := D147 (Or.inr (wk G 94 rfl)) (ty := .boolean) (by decide)
      have F163 := D147 (Or.inr (wk G 96 rfl)) (ty := (.object "java/util/List")) (by decide)
      have F164 := D147 (Or.inr (wk G 137 rfl)) (ty := (.object "java/util/List")) (by decide)
      have F165 := D147 (Or.inr (wk G 142 rfl)) (ty := (.object "com/example/hew/hew/Place")) (by decide)
      refine go_old (fun O166 => ?_)
      refine callIW0 rfl (cells' := 18) (slots' := 129) (Wd := 1) (argsL := [(.ref a103), (.ref r122), (.ref r91), (.int (1 : Int32)), .null, (.ref a126)]) (rest := [(.ref a143)]) (payW_of (a0 := a0) (c_fdinitN l G a143 a103 r122 r91 (1 : Int32) a126 h142 O166 E146 (Nat.le_trans O0.2.1 (Nat.le_trans K150.1 (Nat.le_of_eq g144))) E151 E155 E157 E158 (⟨rfl, by decide⟩) F159 F160 F161 F162 F163 F164 F165) (wk G 78 rfl) (wk G 75 rfl) (by decide) (by decide) (ew1 G)) rfl (wk G 76 rfl) (wk G 77 rfl) (wk G 78 rfl) (by decide) pd17 rfl rfl (by rw [hml]; rfl) (Nat.le_of_ble_eq_true rfl) rfl rfl (by decide) (by decide) (allS (Nat.le_trans O0.2.1 (Nat.le_trans K150.1 (Nat.le_of_eq g144))) all0) (hb hby at_154) (k_n (pc' := 157) rfl ?_)
      rintro  h167 f169 K168
      refine go_astore (pc' := 159) (ls' := #[.val (.int x0), .val (.int x1), .val (.int x2), .val (.int x3), .val (.int x4), .val (.int x5), .val (.int (0 : Int32)), .val (.int (1 : Int32)), .val (.int (((XT.ushr x0 (2 : Int32)) &&& (2147483647 : Int32)) % (3 : Int32))), .val (.ref r91), .val (.ref a94), .val (.ref a103), .val (.ref r122), .val .null, .val (.ref a126), .val (.ref a143)]) (hb hby at_157) rfl rfl rfl ?_
      refine go_aload (pc' := 161) (hb hby at_159) rfl rfl rfl ?_
      refine go_old (fun O170 => ?_)
      have E171 := (E146.keep K168)
      refine callV0 (cells' := 18) (slots' := 129) (Wd := 0) (argsL := []) (rest := []) (pay_of (a0 := a0) (c_ismapN l G a143 h167 O170 f169) (wk G 147 rfl) (wk G 75 rfl) (by decide) (by decide)) E171 (wk G 143 rfl) (wk G 144 rfl) (wk G 146 rfl) (wk G 146 rfl) (wk G 145 rfl) (by decide) pd18 rfl rfl (by rw [hml]; rfl) (Nat.le_of_ble_eq_true rfl) rfl rfl (by decide) (by decide) all0 (fun _ _ => sf0) (hb hby at_161) (k_v (pc' := 164) rfl ?_)
      rintro _ h172 ⟨rfl, rfl⟩ K173
      refine go_iload (pc' := 166) (hb hby at_164) rfl rfl ?_
      refine go_icF (pc' := 169) (hb hby at_166) rfl (by decide) ?_
      refine go_iconst (pc' := 170) (v := 1) (hb hby at_169) rfl rfl ?_
      refine go_goto (pc' := 174) (hb hby at_170) (by decide) rfl ?_
      have K174 : Keep h0 h167 [] := (K156.trans K168 (allS (Or.inr (Nat.le_trans K150.1 (Nat.le_of_eq g144))) all0))
      refine go_ireturn hret hlk rfl (by simp) (hb hby at_174) (by decide) (by decide) ⟨_, rfl, rfl⟩ K174
  · refine go_ifF (pc' := 6) (hb hby at_3) rfl (XT.i0_eq_f c1) ?_
    refine go_iconst (pc' := 7) (v := 1) (hb hby at_6) rfl rfl ?_
    refine go_goto (pc' := 11) (hb hby at_7) (by decide) rfl ?_
    refine go_istore (pc' := 13) (ls' := #[.val (.int x0), .val (.int x1), .val (.int x2), .val (.int x3), .val (.int x4), .val (.int x5), .val (.int (1 : Int32)), .unset, .unset, .unset, .unset, .unset, .unset, .unset, .unset, .unset]) (hb hby at_11) rfl rfl ?_
    refine go_iload_n (pc' := 14) (hb hby at_13) rfl rfl ?_
    refine go_iconst (pc' := 15) (v := 2) (hb hby at_14) rfl rfl ?_
    refine go_iand (pc' := 16) (z := (x0 &&& (2 : Int32))) (hb hby at_15) rfl rfl ?_
    by_cases c175 : (x0 &&& (2 : Int32)) = (0 : Int32)
    · refine go_ifT (pc' := 23) (hb hby at_16) (by decide) rfl (XT.i0_eq_t c175) ?_
      refine go_iconst (pc' := 24) (v := 0) (hb hby at_23) rfl rfl ?_
      refine go_istore (pc' := 26) (ls' := #[.val (.int x0), .val (.int x1), .val (.int x2), .val (.int x3), .val (.int x4), .val (.int x5), .val (.int (1 : Int32)), .val (.int (0 : Int32)), .unset, .unset, .unset, .unset, .unset, .unset, .unset, .unset]) (hb hby at_24) rfl rfl ?_
      refine go_iload_n (pc' := 27) (hb hby at_26) rfl rfl ?_
      refine go_iconst (pc' := 28) (v := 2) (hb hby at_27) rfl rfl ?_
      refine go_iushr (pc' := 29) (z := (XT.ushr x0 (2 : Int32))) (hb hby at_28) rfl rfl ?_
      refine go_ldcI (pc' := 31) (v := (2147483647 : Int32)) (wk G 0 rfl) (hb hby at_29) rfl ?_
      refine go_iand (pc' := 32) (z := ((XT.ushr x0 (2 : Int32)) &&& (2147483647 : Int32))) (hb hby at_31) rfl rfl ?_
      refine go_iconst (pc' := 33) (v := 3) (hb hby at_32) rfl rfl ?_
      refine go_irem (pc' := 34) (z := (((XT.ushr x0 (2 : Int32)) &&& (2147483647 : Int32)) % (3 : Int32))) (hb hby at_33) rfl (by decide) rfl ?_
      refine go_istore (pc' := 36) (ls' := #[.val (.int x0), .val (.int x1), .val (.int x2), .val (.int x3), .val (.int x4), .val (.int x5), .val (.int (1 : Int32)), .val (.int (0 : Int32)), .val (.int (((XT.ushr x0 (2 : Int32)) &&& (2147483647 : Int32)) % (3 : Int32))), .unset, .unset, .unset, .unset, .unset, .unset, .unset]) (hb hby at_34) rfl rfl ?_
      refine go_iload_n (pc' := 37) (hb hby at_36) rfl rfl ?_
      refine callS0 (cells' := 0) (slots' := 0) (Wd := 0) (argsL := [(.int x1)]) (rest := []) (pay_of (a0 := a0) (c_kindof l G x1 h0 O0 ) (wk G 4 rfl) (wk G 3 rfl) (by decide) (by decide)) (wk G 1 rfl) (wk G 2 rfl) (wk G 3 rfl) (wk G 4 rfl) (by decide) pd13 rfl rfl (by rw [hml]; rfl) (Nat.le_of_ble_eq_true rfl) rfl rfl (by decide) (by decide) all0 (fun _ _ => sf0) (hb hby at_37) (k_v (pc' := 40) rfl ?_)
      rintro _ h176 ⟨r178, rfl, rfl, f179⟩ K177
      refine go_astore (pc' := 42) (ls' := #[.val (.int x0), .val (.int x1), .val (.int x2), .val (.int x3), .val (.int x4), .val (.int x5), .val (.int (1 : Int32)), .val (.int (0 : Int32)), .val (.int (((XT.ushr x0 (2 : Int32)) &&& (2147483647 : Int32)) % (3 : Int32))), .val (.ref r178), .unset, .unset, .unset, .unset, .unset, .unset]) (hb hby at_40) rfl rfl rfl ?_
      refine go_iconst (pc' := 43) (v := 1) (hb hby at_42) rfl rfl ?_
      refine go_newP (pc' := 45) (cells' := 1) (slots' := 1) (cap := 1) (vs := [(.int (0 : Int32))]) (ty := .char) (dv := .int 0) (wk G 8 rfl) rfl rfl (hb hby at_43) rfl (by decide) rfl (by decide) rfl rfl rfl (by decide) (by decide) (fun h180 a181 k185 g182 X183 A184 => ?_)
      refine go_dup (pc' := 46) (hb hby at_45) rfl rfl ?_
      refine go_iconst (pc' := 47) (v := 0) (hb hby at_46) rfl rfl ?_
      refine go_iload_n (pc' := 48) (hb hby at_47) rfl rfl ?_
      refine go_sipush (pc' := 51) (v := 255) (hb hby at_48) rfl rfl ?_
      refine go_iand (pc' := 52) (z := (x2 &&& (255 : Int32))) (hb hby at_51) rfl rfl ?_
      refine go_i2c (pc' := 53) (z := (x2 &&& (255 : Int32))) (hb hby at_52) rfl (i2c_mask _) ?_
      refine go_stC (pc' := 54) (i := 0) (x' := (x2 &&& (255 : Int32))) (vs' := [(.int (x2 &&& (255 : Int32)))]) A184 (Nat.le_trans O0.2.1 (Nat.le_of_eq g182)) (by decide) (by decide) rfl (Nat.le_of_ble_eq_true rfl) (i2c_mask _) rfl (hb hby at_53) rfl (fun h186 W187 A188 => ?_)
      refine go_astore (pc' := 56) (ls' := #[.val (.int x0), .val (.int x1), .val (.int x2), .val (.int x3), .val (.int x4), .val (.int x5), .val (.int (1 : Int32)), .val (.int (0 : Int32)), .val (.int (((XT.ushr x0 (2 : Int32)) &&& (2147483647 : Int32)) % (3 : Int32))), .val (.ref r178), .val (.ref a181), .unset, .unset, .unset, .unset, .unset]) (hb hby at_54) rfl rfl rfl ?_
      refine go_newO (pc' := 59) (cells' := 2) (slots' := 5) (wk G 9 rfl) (wk G 10 rfl) (wk G 11 rfl) (hb hby at_56) rfl rfl rfl (by decide) (by decide) (fun h189 a190 g191 X192 E193 D194 U195 => ?_)
      refine go_dup (pc' := 60) (hb hby at_59) rfl rfl ?_
      refine go_aload (pc' := 62) (hb hby at_60) rfl rfl rfl ?_
      have F196 := D194 (Or.inr (wk G 37 rfl)) (ty := (.array .byte)) (by decide)
      have F197 := D194 (Or.inr (wk G 35 rfl)) (ty := .byte) (by decide)
      have K198 : Keep h186 h189 [] := ((Keep.refl h186 []).ext X192)
      have A199 := (A188.keep K198 nin0)
      refine go_old (fun O200 => ?_)
      have K201 : Keep h0 h180 [] := ((Keep.refl h0 []).ext X183)
      have K202 : Keep h0 h186 [] := (K201.wr W187 (Or.inr (Nat.le_of_eq g182)))
      refine callI0 (cells' := 3) (slots' := 6) (Wd := 1) (argsL := [(.ref a181)]) (rest := [(.ref a190)]) (pay_new G O200 (cs := [(x2 &&& (255 : Int32))]) (n := 1) (Nat.le_trans O0.2.1 (Nat.le_trans K202.1 (Nat.le_of_eq g191))) E193 F196 F197 A199 rfl rfl (by decide) (by decide) (c8c (c8_m _) c8n) (by decide) (by decide)) rfl (wk G 12 rfl) (wk G 13 rfl) (wk G 14 rfl) (by decide) pd14 rfl rfl (by rw [hml]; rfl) (Nat.le_of_ble_eq_true rfl) rfl rfl (by decide) (by decide) (allS (Nat.le_trans O0.2.1 (Nat.le_trans K202.1 (Nat.le_of_eq g191))) all0) (fun _ hal => (sfS (safe_null hal E193 F196) sf0)) (hb hby at_62) (k_n (pc' := 65) rfl ?_)
      rintro h203 S205 K204
      refine go_astore (pc' := 67) (ls' := #[.val (.int x0), .val (.int x1), .val (.int x2), .val (.int x3), .val (.int x4), .val (.int x5), .val (.int (1 : Int32)), .val (.int (0 : Int32)), .val (.int (((XT.ushr x0 (2 : Int32)) &&& (2147483647 : Int32)) % (3 : Int32))), .val (.ref r178), .val (.ref a181), .val (.ref a190), .unset, .unset, .unset, .unset]) (hb hby at_65) rfl rfl rfl ?_
      refine go_iload_n (pc' := 68) (hb hby at_67) rfl rfl ?_
      refine go_sipush (pc' := 71) (v := 255) (hb hby at_68) rfl rfl ?_
      refine go_iand (pc' := 72) (z := (x3 &&& (255 : Int32))) (hb hby at_71) rfl rfl ?_
      refine go_i2c (pc' := 73) (z := (x3 &&& (255 : Int32))) (hb hby at_72) rfl (i2c_mask _) ?_
      refine go_old (fun O206 => ?_)
      refine callS0 (cells' := 5) (slots' := 11) (Wd := 0) (argsL := [(.int (x3 &&& (255 : Int32)))]) (rest := []) (pay_of (a0 := a0) (c_valueof l G (x3 &&& (255 : Int32)) h203 O206 (c8_m _)) (wk G 40 rfl) (wk G 11 rfl) (by decide) (by decide)) (wk G 38 rfl) (wk G 39 rfl) (wk G 11 rfl) (wk G 40 rfl) (by decide) pd15 rfl rfl (by rw [hml]; rfl) (Nat.le_of_ble_eq_true rfl) rfl rfl (by decide) (by decide) all0 (fun _ _ => sf0) (hb hby at_73) (k_v (pc' := 76) rfl ?_)
      rintro _ h207 ⟨r209, rfl, f210, f211⟩ K208
      refine go_astore (pc' := 78) (ls' := #[.val (.int x0), .val (.int x1), .val (.int x2), .val (.int x3), .val (.int x4), .val (.int x5), .val (.int (1 : Int32)), .val (.int (0 : Int32)), .val (.int (((XT.ushr x0 (2 : Int32)) &&& (2147483647 : Int32)) % (3 : Int32))), .val (.ref r178), .val (.ref a181), .val (.ref a190), .val (.ref r209), .unset, .unset, .unset]) (hb hby at_76) rfl rfl rfl ?_
      refine go_aconst_null (pc' := 79) (hb hby at_78) rfl ?_
      refine go_astore (pc' := 81) (ls' := #[.val (.int x0), .val (.int x1), .val (.int x2), .val (.int x3), .val (.int x4), .val (.int x5), .val (.int (1 : Int32)), .val (.int (0 : Int32)), .val (.int (((XT.ushr x0 (2 : Int32)) &&& (2147483647 : Int32)) % (3 : Int32))), .val (.ref r178), .val (.ref a181), .val (.ref a190), .val (.ref r209), .val .null, .unset, .unset]) (hb hby at_79) rfl rfl rfl ?_
      refine go_iload (pc' := 83) (hb hby at_81) rfl rfl ?_
      refine go_ifF (pc' := 86) (hb hby at_83) rfl (by decide) ?_
      refine go_newO (pc' := 89) (cells' := 6) (slots' := 14) (wk G 152 rfl) (wk G 153 rfl) (wk G 154 rfl) (hb hby at_86) rfl rfl rfl (by decide) (by decide) (fun h212 a213 g214 X215 E216 D217 U218 => ?_)
      refine go_dup (pc' := 90) (hb hby at_89) rfl rfl ?_
      have K219 : Keep h0 h189 [] := (K202.ext X192)
      have K220 : Keep h0 h203 [] := (K219.trans K204 (allS (Or.inr (Nat.le_trans K202.1 (Nat.le_of_eq g191))) all0))
      have K221 : Keep h0 h207 [] := (K220.trans K208 all0)
      have F222 := D217 (Or.inl (wk G 167 rfl)) (ty := .int) (by decide)
      have F223 := D217 (Or.inl (wk G 170 rfl)) (ty := (.array (.object "java/lang/Object"))) (by decide)
      have F224 := D217 (Or.inl (wk G 179 rfl)) (ty := .int) (by decide)
      refine go_old (fun O225 => ?_)
      refine callI0 (cells' := 6) (slots' := 14) (Wd := 1) (argsL := []) (rest := [(.ref a213)]) (pay_of (a0 := a0) (c_alinit l G a213 h212 O225 E216 (Nat.le_trans O0.2.1 (Nat.le_trans K221.1 (Nat.le_of_eq g214))) F222 F223 F224) (wk G 157 rfl) (wk G 154 rfl) (by decide) (by decide)) rfl (wk G 155 rfl) (wk G 156 rfl) (wk G 157 rfl) (by decide) pd5 rfl rfl (by rw [hml]; rfl) (Nat.le_of_ble_eq_true rfl) rfl rfl (by decide) (by decide) (allS (Nat.le_trans O0.2.1 (Nat.le_trans K221.1 (Nat.le_of_eq g214))) all0) (fun _ hal => (sfS (Safe.exa hal E216 (by decide) (by decide)) sf0)) (hb hby at_90) (k_n (pc' := 93) rfl ?_)
      rintro  h226 ⟨f228, f229, f230⟩ K227
      refine go_astore (pc' := 95) (ls' := #[.val (.int x0), .val (.int x1), .val (.int x2), .val (.int x3), .val (.int x4), .val (.int x5), .val (.int (1 : Int32)), .val (.int (0 : Int32)), .val (.int (((XT.ushr x0 (2 : Int32)) &&& (2147483647 : Int32)) % (3 : Int32))), .val (.ref r178), .val (.ref a181), .val (.ref a190), .val (.ref r209), .val (.ref a213), .unset, .unset]) (hb hby at_93) rfl rfl rfl ?_
      refine go_iload (pc' := 97) (hb hby at_95) rfl rfl ?_
      refine go_iconst (pc' := 98) (v := 1) (hb hby at_97) rfl rfl ?_
      by_cases c231 : (((XT.ushr x0 (2 : Int32)) &&& (2147483647 : Int32)) % (3 : Int32)) < (1 : Int32)
      · refine go_icT (pc' := 109) (hb hby at_98) (by decide) rfl (XT.ii_lt_t c231) ?_
        refine go_iload (pc' := 111) (hb hby at_109) rfl rfl ?_
        refine go_iconst (pc' := 112) (v := 2) (hb hby at_111) rfl rfl ?_
        by_cases c232 : (((XT.ushr x0 (2 : Int32)) &&& (2147483647 : Int32)) % (3 : Int32)) < (2 : Int32)
        · refine go_icT (pc' := 123) (hb hby at_112) (by decide) rfl (XT.ii_lt_t c232) ?_
          refine go_newO (pc' := 126) (cells' := 7) (slots' := 17) (wk G 52 rfl) (wk G 53 rfl) (wk G 54 rfl) (hb hby at_123) rfl rfl rfl (by decide) (by decide) (fun h233 a234 g235 X236 E237 D238 U239 => ?_)
          refine go_dup (pc' := 127) (hb hby at_126) rfl rfl ?_
          refine go_aload (pc' := 129) (hb hby at_127) rfl rfl rfl ?_
          refine go_iload (pc' := 131) (hb hby at_129) rfl rfl ?_
          refine go_iload (pc' := 133) (hb hby at_131) rfl rfl ?_
          have K240 : Keep h0 h212 [] := (K221.ext X215)
          have K241 : Keep h0 h226 [] := (K240.trans K227 (allS (Or.inr (Nat.le_trans K221.1 (Nat.le_of_eq g214))) all0))
          have E242 := (((((E193.keep K204).keep K208).ext X215).keep K227).ext X236)
          have F243 := D238 (Or.inr (wk G 68 rfl)) (ty := (.object "java/lang/String")) (by decide)
          have F244 := D238 (Or.inr (wk G 70 rfl)) (ty := .int) (by decide)
          have F245 := D238 (Or.inr (wk G 72 rfl)) (ty := .int) (by decide)
          refine go_old (fun O246 => ?_)
          refine callIW0 rfl (cells' := 9) (slots' := 37) (Wd := 1) (argsL := [(.ref a190), (.int x4), (.int x5)]) (rest := [(.ref a234)]) (payW_of (a0 := a0) (c_plinit l G a234 a190 x4 x5 h233 O246 E237 (Nat.le_trans O0.2.1 (Nat.le_trans K241.1 (Nat.le_of_eq g235))) E242 F243 F244 F245) (wk G 57 rfl) (wk G 54 rfl) (by decide) (by decide) (ew1 G)) rfl (wk G 55 rfl) (wk G 56 rfl) (wk G 57 rfl) (by decide) pd16 rfl rfl (by rw [hml]; rfl) (Nat.le_of_ble_eq_true rfl) rfl rfl (by decide) (by decide) (allS (Nat.le_trans O0.2.1 (Nat.le_trans K241.1 (Nat.le_of_eq g235))) all0) (hb hby at_133) (k_n (pc' := 136) rfl ?_)
          rintro  h247 - K248
          refine go_astore (pc' := 138) (ls' := #[.val (.int x0), .val (.int x1), .val (.int x2), .val (.int x3), .val (.int x4), .val (.int x5), .val (.int (1 : Int32)), .val (.int (0 : Int32)), .val (.int (((XT.ushr x0 (2 : Int32)) &&& (2147483647 : Int32)) % (3 : Int32))), .val (.ref r178), .val (.ref a181), .val (.ref a190), .val (.ref r209), .val (.ref a213), .val (.ref a234), .unset]) (hb hby at_136) rfl rfl rfl ?_
          refine go_newO (pc' := 141) (cells' := 10) (slots' := 46) (wk G 73 rfl) (wk G 74 rfl) (wk G 75 rfl) (hb hby at_138) rfl rfl rfl (by decide) (by decide) (fun h249 a250 g251 X252 E253 D254 U255 => ?_)
          refine go_dup (pc' := 142) (hb hby at_141) rfl rfl ?_
          refine go_aload (pc' := 144) (hb hby at_142) rfl rfl rfl ?_
          refine go_aload (pc' := 146) (hb hby at_144) rfl rfl rfl ?_
          refine go_aload (pc' := 148) (hb hby at_146) rfl rfl rfl ?_
          refine go_iload (pc' := 150) (hb hby at_148) rfl rfl ?_
          refine go_aload (pc' := 152) (hb hby at_150) rfl rfl rfl ?_
          refine go_aload (pc' := 154) (hb hby at_152) rfl rfl rfl ?_
          have K256 : Keep h0 h233 [] := (K241.ext X236)
          have K257 : Keep h0 h247 [] := (K256.trans K248 (allS (Or.inr (Nat.le_trans K241.1 (Nat.le_of_eq g235))) all0))
          have E258 := ((E242.keep K248).ext X252)
          have K259 : Keep h207 h212 [] := ((Keep.refl h207 []).ext X215)
          have K260 : Keep h207 h226 [] := (K259.trans K227 (allS (Or.inr (Nat.le_of_eq g214)) all0))
          have K261 : Keep h207 h233 [] := (K260.ext X236)
          have K262 : Keep h207 h247 [] := (K261.trans K248 (allS (Or.inr (Nat.le_trans K260.1 (Nat.le_of_eq g235))) all0))
          have K263 : Keep h207 h249 [] := (K262.ext X252)
          have E264 := (f211.exa.keep K263)
          have K265 : Keep h0 h249 [] := (K257.ext X252)
          have E266 := (f179.keep K265)
          have E267 := ((E237.keep K248).ext X252)
          have F268 := D254 (Or.inr (wk G 84 rfl)) (ty := (.object "java/lang/String")) (by decide)
          have F269 := D254 (Or.inr (wk G 87 rfl)) (ty := (.object "java/lang/String")) (by decide)
          have F270 := D254 (Or.inr (wk G 92 rfl)) (ty := (.object "com/example/hew/hew/Message$Field$Kind")) (by decide)
          have F271 := D254 (Or.inr (wk G 94 rfl)) (ty := .boolean) (by decide)
          have F272 := D254 (Or.inr (wk G 96 rfl)) (ty := (.object "java/util/List")) (by decide)
          have F273 := D254 (Or.inr (wk G 137 rfl)) (ty := (.object "java/util/List")) (by decide)
          have F274 := D254 (Or.inr (wk G 142 rfl)) (ty := (.object "com/example/hew/hew/Place")) (by decide)
          refine go_old (fun O275 => ?_)
          refine callIW0 rfl (cells' := 18) (slots' := 130) (Wd := 1) (argsL := [(.ref a190), (.ref r209), (.ref r178), (.int (0 : Int32)), (.ref a213), (.ref a234)]) (rest := [(.ref a250)]) (payW_of (a0 := a0) (c_fdinitR l G a250 a190 r209 r178 (0 : Int32) a213 a234 h249 O275 E253 (Nat.le_trans O0.2.1 (Nat.le_trans K257.1 (Nat.le_of_eq g251))) E258 E264 E266 E267 (⟨rfl, by decide⟩) F268 F269 F270 F271 F272 F273 F274) (wk G 78 rfl) (wk G 75 rfl) (by decide) (by decide) (ew1 G)) rfl (wk G 76 rfl) (wk G 77 rfl) (wk G 78 rfl) (by decide) pd17 rfl rfl (by rw [hml]; rfl) (Nat.le_of_ble_eq_true rfl) rfl rfl (by decide) (by decide) (allS (Nat.le_trans O0.2.1 (Nat.le_trans K257.1 (Nat.le_of_eq g251))) all0) (hb hby at_154) (k_n (pc' := 157) rfl ?_)
          rintro  h276 f278 K277
          refine go_astore (pc' := 159) (ls' := #[.val (.int x0), .val (.int x1), .val (.int x2), .val (.int x3), .val (.int x4), .val (.int x5), .val (.int (1 : Int32)), .val (.int (0 : Int32)), .val (.int (((XT.ushr x0 (2 : Int32)) &&& (2147483647 : Int32)) % (3 : Int32))), .val (.ref r178), .val (.ref a181), .val (.ref a190), .val (.ref r209), .val (.ref a213), .val (.ref a234), .val (.ref a250)]) (hb hby at_157) rfl rfl rfl ?_
          refine go_aload (pc' := 161) (hb hby at_159) rfl rfl rfl ?_
          refine go_old (fun O279 => ?_)
          have E280 := (E253.keep K277)
          refine callV0 (cells' := 18) (slots' := 130) (Wd := 0) (argsL := []) (rest := []) (pay_of (a0 := a0) (c_ismapR l G a250 a213 h276 O279 f278) (wk G 147 rfl) (wk G 75 rfl) (by decide) (by decide)) E280 (wk G 143 rfl) (wk G 144 rfl) (wk G 146 rfl) (wk G 146 rfl) (wk G 145 rfl) (by decide) pd18 rfl rfl (by rw [hml]; rfl) (Nat.le_of_ble_eq_true rfl) rfl rfl (by decide) (by decide) all0 (fun _ _ => sf0) (hb hby at_161) (k_v (pc' := 164) rfl ?_)
          rintro _ h281 ⟨rfl, rfl⟩ K282
          refine go_iload (pc' := 166) (hb hby at_164) rfl rfl ?_
          refine go_icF (pc' := 169) (hb hby at_166) rfl (by decide) ?_
          refine go_iconst (pc' := 170) (v := 1) (hb hby at_169) rfl rfl ?_
          refine go_goto (pc' := 174) (hb hby at_170) (by decide) rfl ?_
          have K283 : Keep h0 h276 [] := (K265.trans K277 (allS (Or.inr (Nat.le_trans K257.1 (Nat.le_of_eq g251))) all0))
          refine go_ireturn hret hlk rfl (by simp) (hb hby at_174) (by decide) (by decide) ⟨_, rfl, rfl⟩ K283
        · refine go_icF (pc' := 115) (hb hby at_112) rfl (XT.ii_lt_f c232) ?_
          refine go_aload (pc' := 117) (hb hby at_115) rfl rfl rfl ?_
          refine go_aload (pc' := 119) (hb hby at_117) rfl rfl rfl ?_
          have E284 := (E216.keep K227)
          have K285 : Keep h207 h212 [] := ((Keep.refl h207 []).ext X215)
          have K286 : Keep h207 h226 [] := (K285.trans K227 (allS (Or.inr (Nat.le_of_eq g214)) all0))
          have E287 := (f211.exa.keep K286)
          refine go_old (fun O288 => ?_)
          refine callV0 (cells' := 7) (slots' := 24) (Wd := 0) (argsL := [(.ref r209)]) (rest := []) (pay_of (a0 := a0) (c_adda l G a213 r209 h226 O288 E284 (Nat.le_trans O0.2.1 (Nat.le_trans K221.1 (Nat.le_of_eq g214))) f229 f230 f228 E287) (wk G 175 rfl) (wk G 154 rfl) (by decide) (by decide)) E284 (wk G 171 rfl) (wk G 172 rfl) (wk G 174 rfl) (wk G 174 rfl) (wk G 173 rfl) (by decide) pd19 rfl rfl (by rw [hml]; rfl) (Nat.le_of_ble_eq_true rfl) rfl rfl (by decide) (by decide) (allS (Nat.le_trans O0.2.1 (Nat.le_trans K221.1 (Nat.le_of_eq g214))) all0) (fun _ hal => (sfS (Safe.exa hal E284 (by decide) (by decide)) sf0)) (hb hby at_119) (k_v (pc' := 122) rfl ?_)
          rintro _ h289 ⟨r291, r292, rfl, f293, f294, f295, f296, f297, f298⟩ K290
          refine go_pop (pc' := 123) (hb hby at_122) rfl rfl ?_
          refine go_newO (pc' := 126) (cells' := 8) (slots' := 27) (wk G 52 rfl) (wk G 53 rfl) (wk G 54 rfl) (hb hby at_123) rfl rfl rfl (by decide) (by decide) (fun h299 a300 g301 X302 E303 D304 U305 => ?_)
          refine go_dup (pc' := 127) (hb hby at_126) rfl rfl ?_
          refine go_aload (pc' := 129) (hb hby at_127) rfl rfl rfl ?_
          refine go_iload (pc' := 131) (hb hby at_129) rfl rfl ?_
          refine go_iload (pc' := 133) (hb hby at_131) rfl rfl ?_
          have K306 : Keep h0 h212 [] := (K221.ext X215)
          have K307 : Keep h0 h226 [] := (K306.trans K227 (allS (Or.inr (Nat.le_trans K221.1 (Nat.le_of_eq g214))) all0))
          have K308 : Keep h0 h289 [] := (K307.trans K290 (allS (Or.inr (Nat.le_trans K221.1 (Nat.le_of_eq g214))) all0))
          have E309 := ((((((E193.keep K204).keep K208).ext X215).keep K227).keep K290).ext X302)
          have F310 := D304 (Or.inr (wk G 68 rfl)) (ty := (.object "java/lang/String")) (by decide)
          have F311 := D304 (Or.inr (wk G 70 rfl)) (ty := .int) (by decide)
          have F312 := D304 (Or.inr (wk G 72 rfl)) (ty := .int) (by decide)
          refine go_old (fun O313 => ?_)
          refine callIW0 rfl (cells' := 10) (slots' := 47) (Wd := 1) (argsL := [(.ref a190), (.int x4), (.int x5)]) (rest := [(.ref a300)]) (payW_of (a0 := a0) (c_plinit l G a300 a190 x4 x5 h299 O313 E303 (Nat.le_trans O0.2.1 (Nat.le_trans K308.1 (Nat.le_of_eq g301))) E309 F310 F311 F312) (wk G 57 rfl) (wk G 54 rfl) (by decide) (by decide) (ew1 G)) rfl (wk G 55 rfl) (wk G 56 rfl) (wk G 57 rfl) (by decide) pd16 rfl rfl (by rw [hml]; rfl) (Nat.le_of_ble_eq_true rfl) rfl rfl (by decide) (by decide) (allS (Nat.le_trans O0.2.1 (Nat.le_trans K308.1 (Nat.le_of_eq g301))) all0) (hb hby at_133) (k_n (pc' := 136) rfl ?_)
          rintro  h314 - K315
          refine go_astore (pc' := 138) (ls' := #[.val (.int x0), .val (.int x1), .val (.int x2), .val (.int x3), .val (.int x4), .val (.int x5), .val (.int (1 : Int32)), .val (.int (0 : Int32)), .val (.int (((XT.ushr x0 (2 : Int32)) &&& (2147483647 : Int32)) % (3 : Int32))), .val (.ref r178), .val (.ref a181), .val (.ref a190), .val (.ref r209), .val (.ref a213), .val (.ref a300), .unset]) (hb hby at_136) rfl rfl rfl ?_
          refine go_newO (pc' := 141) (cells' := 11) (slots' := 56) (wk G 73 rfl) (wk G 74 rfl) (wk G 75 rfl) (hb hby at_138) rfl rfl rfl (by decide) (by decide) (fun h316 a317 g318 X319 E320 D321 U322 => ?_)
          refine go_dup (pc' := 142) (hb hby at_141) rfl rfl ?_
          refine go_aload (pc' := 144) (hb hby at_142) rfl rfl rfl ?_
          refine go_aload (pc' := 146) (hb hby at_144) rfl rfl rfl ?_
          refine go_aload (pc' := 148) (hb hby at_146) rfl rfl rfl ?_
          refine go_iload (pc' := 150) (hb hby at_148) rfl rfl ?_
          refine go_aload (pc' := 152) (hb hby at_150) rfl rfl rfl ?_
          refine go_aload (pc' := 154) (hb hby at_152) rfl rfl rfl ?_
          have K323 : Keep h0 h299 [] := (K308.ext X302)
          have K324 : Keep h0 h314 [] := (K323.trans K315 (allS (Or.inr (Nat.le_trans K308.1 (Nat.le_of_eq g301))) all0))
          have E325 := ((E309.keep K315).ext X319)
          have E326 := ((((E287.keep K290).ext X302).keep K315).ext X319)
          have K327 : Keep h0 h316 [] := (K324.ext X319)
          have E328 := (f179.keep K327)
          have E329 := ((E303.keep K315).ext X319)
          have F330 := D321 (Or.inr (wk G 84 rfl)) (ty := (.object "java/lang/String")) (by decide)
          have F331 := D321 (Or.inr (wk G 87 rfl)) (ty := (.object "java/lang/String")) (by decide)
          have F332 := D321 (Or.inr (wk G 92 rfl)) (ty := (.object "com/example/hew/hew/Message$Field$Kind")) (by decide)
          have F333 := D321 (Or.inr (wk G 94 rfl)) (ty := .boolean) (by decide)
          have F334 := D321 (Or.inr (wk G 96 rfl)) (ty := (.object "java/util/List")) (by decide)
          have F335 := D321 (Or.inr (wk G 137 rfl)) (ty := (.object "java/util/List")) (by decide)
          have F336 := D321 (Or.inr (wk G 142 rfl)) (ty := (.object "com/example/hew/hew/Place")) (by decide)
          refine go_old (fun O337 => ?_)
          refine callIW0 rfl (cells' := 19) (slots' := 140) (Wd := 1) (argsL := [(.ref a190), (.ref r209), (.ref r178), (.int (0 : Int32)), (.ref a213), (.ref a300)]) (rest := [(.ref a317)]) (payW_of (a0 := a0) (c_fdinitR l G a317 a190 r209 r178 (0 : Int32) a213 a300 h316 O337 E320 (Nat.le_trans O0.2.1 (Nat.le_trans K324.1 (Nat.le_of_eq g318))) E325 E326 E328 E329 (⟨rfl, by decide⟩) F330 F331 F332 F333 F334 F335 F336) (wk G 78 rfl) (wk G 75 rfl) (by decide) (by decide) (ew1 G)) rfl (wk G 76 rfl) (wk G 77 rfl) (wk G 78 rfl) (by decide) pd17 rfl rfl (by rw [hml]; rfl) (Nat.le_of_ble_eq_true rfl) rfl rfl (by decide) (by decide) (allS (Nat.le_trans O0.2.1 (Nat.le_trans K324.1 (Nat.le_of_eq g318))) all0) (hb hby at_154) (k_n (pc' := 157) rfl ?_)
          rintro  h338 f340 K339
          refine go_astore (pc' := 159) (ls' := #[.val (.int x0), .val (.int x1), .val (.int x2), .val (.int x3), .val (.int x4), .val (.int x5), .val (.int (1 : Int32)), .val (.int (0 : Int32)), .val (.int (((XT.ushr x0 (2 : Int32)) &&& (2147483647 : Int32)) % (3 : Int32))), .val (.ref r178), .val (.ref a181), .val (.ref a190), .val (.ref r209), .val (.ref a213), .val (.ref a300), .val (.ref a317)]) (hb hby at_157) rfl rfl rfl ?_
          refine go_aload (pc' := 161) (hb hby at_159) rfl rfl rfl ?_
          refine go_old (fun O341 => ?_)
          have E342 := (E320.keep K339)
          refine callV0 (cells' := 19) (slots' := 140) (Wd := 0) (argsL := []) (rest := []) (pay_of (a0 := a0) (c_ismapR l G a317 a213 h338 O341 f340) (wk G 147 rfl) (wk G 75 rfl) (by decide) (by decide)) E342 (wk G 143 rfl) (wk G 144 rfl) (wk G 146 rfl) (wk G 146 rfl) (wk G 145 rfl) (by decide) pd18 rfl rfl (by rw [hml]; rfl) (Nat.le_of_ble_eq_true rfl) rfl rfl (by decide) (by decide) all0 (fun _ _ => sf0) (hb hby at_161) (k_v (pc' := 164) rfl ?_)
          rintro _ h343 ⟨rfl, rfl⟩ K344
          refine go_iload (pc' := 166) (hb hby at_164) rfl rfl ?_
          refine go_icF (pc' := 169) (hb hby at_166) rfl (by decide) ?_
          refine go_iconst (pc' := 170) (v := 1) (hb hby at_169) rfl rfl ?_
          refine go_goto (pc' := 174) (hb hby at_170) (by decide) rfl ?_
          have K345 : Keep h0 h338 [] := (K327.trans K339 (allS (Or.inr (Nat.le_trans K324.1 (Nat.le_of_eq g318))) all0))
          refine go_ireturn hret hlk rfl (by simp) (hb hby at_174) (by decide) (by decide) ⟨_, rfl, rfl⟩ K345
      · refine go_icF (pc' := 101) (hb hby at_98) rfl (XT.ii_lt_f c231) ?_
        refine go_aload (pc' := 103) (hb hby at_101) rfl rfl rfl ?_
        refine go_aload (pc' := 105) (hb hby at_103) rfl rfl rfl ?_
        have E346 := (E216.keep K227)
        have E347 := ((((E193.keep K204).keep K208).ext X215).keep K227)
        refine go_old (fun O348 => ?_)
        refine callV0 (cells' := 7) (slots' := 24) (Wd := 0) (argsL := [(.ref a190)]) (rest := []) (pay_of (a0 := a0) (c_adda l G a213 a190 h226 O348 E346 (Nat.le_trans O0.2.1 (Nat.le_trans K221.1 (Nat.le_of_eq g214))) f229 f230 f228 E347) (wk G 175 rfl) (wk G 154 rfl) (by decide) (by decide)) E346 (wk G 171 rfl) (wk G 172 rfl) (wk G 174 rfl) (wk G 174 rfl) (wk G 173 rfl) (by decide) pd19 rfl rfl (by rw [hml]; rfl) (Nat.le_of_ble_eq_true rfl) rfl rfl (by decide) (by decide) (allS (Nat.le_trans O0.2.1 (Nat.le_trans K221.1 (Nat.le_of_eq g214))) all0) (fun _ hal => (sfS (Safe.exa hal E346 (by decide) (by decide)) sf0)) (hb hby at_105) (k_v (pc' := 108) rfl ?_)
        rintro _ h349 ⟨r351, r352, rfl, f353, f354, f355, f356, f357, f358⟩ K350
        refine go_pop (pc' := 109) (hb hby at_108) rfl rfl ?_
        refine go_iload (pc' := 111) (hb hby at_109) rfl rfl ?_
        refine go_iconst (pc' := 112) (v := 2) (hb hby at_111) rfl rfl ?_
        by_cases c359 : (((XT.ushr x0 (2 : Int32)) &&& (2147483647 : Int32)) % (3 : Int32)) < (2 : Int32)
        · refine go_icT (pc' := 123) (hb hby at_112) (by decide) rfl (XT.ii_lt_t c359) ?_
          refine go_newO (pc' := 126) (cells' := 8) (slots' := 27) (wk G 52 rfl) (wk G 53 rfl) (wk G 54 rfl) (hb hby at_123) rfl rfl rfl (by decide) (by decide) (fun h360 a361 g362 X363 E364 D365 U366 => ?_)
          refine go_dup (pc' := 127) (hb hby at_126) rfl rfl ?_
          refine go_aload (pc' := 129) (hb hby at_127) rfl rfl rfl ?_
          refine go_iload (pc' := 131) (hb hby at_129) rfl rfl ?_
          refine go_iload (pc' := 133) (hb hby at_131) rfl rfl ?_
          have K367 : Keep h0 h212 [] := (K221.ext X215)
          have K368 : Keep h0 h226 [] := (K367.trans K227 (allS (Or.inr (Nat.le_trans K221.1 (Nat.le_of_eq g214))) all0))
          have K369 : Keep h0 h349 [] := (K368.trans K350 (allS (Or.inr (Nat.le_trans K221.1 (Nat.le_of_eq g214))) all0))
          have E370 := ((E347.keep K350).ext X363)
          have F371 := D365 (Or.inr (wk G 68 rfl)) (ty := (.object "java/lang/String")) (by decide)
          have F372 := D365 (Or.inr (wk G 70 rfl)) (ty := .int) (by decide)
          have F373 := D365 (Or.inr (wk G 72 rfl)) (ty := .int) (by decide)
          refine go_old (fun O374 => ?_)
          refine callIW0 rfl (cells' := 10) (slots' := 47) (Wd := 1) (argsL := [(.ref a190), (.int x4), (.int x5)]) (rest := [(.ref a361)]) (payW_of (a0 := a0) (c_plinit l G a361 a190 x4 x5 h360 O374 E364 (Nat.le_trans O0.2.1 (Nat.le_trans K369.1 (Nat.le_of_eq g362))) E370 F371 F372 F373) (wk G 57 rfl) (wk G 54 rfl) (by decide) (by decide) (ew1 G)) rfl (wk G 55 rfl) (wk G 56 rfl) (wk G 57 rfl) (by decide) pd16 rfl rfl (by rw [hml]; rfl) (Nat.le_of_ble_eq_true rfl) rfl rfl (by decide) (by decide) (allS (Nat.le_trans O0.2.1 (Nat.le_trans K369.1 (Nat.le_of_eq g362))) all0) (hb hby at_133) (k_n (pc' := 136) rfl ?_)
          rintro  h375 - K376
          refine go_astore (pc' := 138) (ls' := #[.val (.int x0), .val (.int x1), .val (.int x2), .val (.int x3), .val (.int x4), .val (.int x5), .val (.int (1 : Int32)), .val (.int (0 : Int32)), .val (.int (((XT.ushr x0 (2 : Int32)) &&& (2147483647 : Int32)) % (3 : Int32))), .val (.ref r178), .val (.ref a181), .val (.ref a190), .val (.ref r209), .val (.ref a213), .val (.ref a361), .unset]) (hb hby at_136) rfl rfl rfl ?_
          refine go_newO (pc' := 141) (cells' := 11) (slots' := 56) (wk G 73 rfl) (wk G 74 rfl) (wk G 75 rfl) (hb hby at_138) rfl rfl rfl (by decide) (by decide) (fun h377 a378 g379 X380 E381 D382 U383 => ?_)
          refine go_dup (pc' := 142) (hb hby at_141) rfl rfl ?_
          refine go_aload (pc' := 144) (hb hby at_142) rfl rfl rfl ?_
          refine go_aload (pc' := 146) (hb hby at_144) rfl rfl rfl ?_
          refine go_aload (pc' := 148) (hb hby at_146) rfl rfl rfl ?_
          refine go_iload (pc' := 150) (hb hby at_148) rfl rfl ?_
          refine go_aload (pc' := 152) (hb hby at_150) rfl rfl rfl ?_
          refine go_aload (pc' := 154) (hb hby at_152) rfl rfl rfl ?_
          have K384 : Keep h0 h360 [] := (K369.ext X363)
          have K385 : Keep h0 h375 [] := (K384.trans K376 (allS (Or.inr (Nat.le_trans K369.1 (Nat.le_of_eq g362))) all0))
          have E386 := ((E370.keep K376).ext X380)
          have K387 : Keep h207 h212 [] := ((Keep.refl h207 []).ext X215)
          have K388 : Keep h207 h226 [] := (K387.trans K227 (allS (Or.inr (Nat.le_of_eq g214)) all0))
          have K389 : Keep h207 h349 [] := (K388.trans K350 (allS (Or.inr (Nat.le_of_eq g214)) all0))
          have K390 : Keep h207 h360 [] := (K389.ext X363)
          have K391 : Keep h207 h375 [] := (K390.trans K376 (allS (Or.inr (Nat.le_trans K389.1 (Nat.le_of_eq g362))) all0))
          have K392 : Keep h207 h377 [] := (K391.ext X380)
          have E393 := (f211.exa.keep K392)
          have K394 : Keep h0 h377 [] := (K385.ext X380)
          have E395 := (f179.keep K394)
          have E396 := ((E364.keep K376).ext X380)
          have F397 := D382 (Or.inr (wk G 84 rfl)) (ty := (.object "java/lang/String")) (by decide)
          have F398 := D382 (Or.inr (wk G 87 rfl)) (ty := (.object "java/lang/String")) (by decide)
          have F399 := D382 (Or.inr (wk G 92 rfl)) (ty := (.object "com/example/hew/hew/Message$Field$Kind")) (by decide)
          have F400 := D382 (Or.inr (wk G 94 rfl)) (ty := .boolean) (by decide)
          have F401 := D382 (Or.inr (wk G 96 rfl)) (ty := (.object "java/util/List")) (by decide)
          have F402 := D382 (Or.inr (wk G 137 rfl)) (ty := (.object "java/util/List")) (by decide)
          have F403 := D382 (Or.inr (wk G 142 rfl)) (ty := (.object "com/example/hew/hew/Place")) (by decide)
          refine go_old (fun O404 => ?_)
          refine callIW0 rfl (cells' := 19) (slots' := 140) (Wd := 1) (argsL := [(.ref a190), (.ref r209), (.ref r178), (.int (0 : Int32)), (.ref a213), (.ref a361)]) (rest := [(.ref a378)]) (payW_of (a0 := a0) (c_fdinitR l G a378 a190 r209 r178 (0 : Int32) a213 a361 h377 O404 E381 (Nat.le_trans O0.2.1 (Nat.le_trans K385.1 (Nat.le_of_eq g379))) E386 E393 E395 E396 (⟨rfl, by decide⟩) F397 F398 F399 F400 F401 F402 F403) (wk G 78 rfl) (wk G 75 rfl) (by decide) (by decide) (ew1 G)) rfl (wk G 76 rfl) (wk G 77 rfl) (wk G 78 rfl) (by decide) pd17 rfl rfl (by rw [hml]; rfl) (Nat.le_of_ble_eq_true rfl) rfl rfl (by decide) (by decide) (allS (Nat.le_trans O0.2.1 (Nat.le_trans K385.1 (Nat.le_of_eq g379))) all0) (hb hby at_154) (k_n (pc' := 157) rfl ?_)
          rintro  h405 f407 K406
          refine go_astore (pc' := 159) (ls' := #[.val (.int x0), .val (.int x1), .val (.int x2), .val (.int x3), .val (.int x4), .val (.int x5), .val (.int (1 : Int32)), .val (.int (0 : Int32)), .val (.int (((XT.ushr x0 (2 : Int32)) &&& (2147483647 : Int32)) % (3 : Int32))), .val (.ref r178), .val (.ref a181), .val (.ref a190), .val (.ref r209), .val (.ref a213), .val (.ref a361), .val (.ref a378)]) (hb hby at_157) rfl rfl rfl ?_
          refine go_aload (pc' := 161) (hb hby at_159) rfl rfl rfl ?_
          refine go_old (fun O408 => ?_)
          have E409 := (E381.keep K406)
          refine callV0 (cells' := 19) (slots' := 140) (Wd := 0) (argsL := []) (rest := []) (pay_of (a0 := a0) (c_ismapR l G a378 a213 h405 O408 f407) (wk G 147 rfl) (wk G 75 rfl) (by decide) (by decide)) E409 (wk G 143 rfl) (wk G 144 rfl) (wk G 146 rfl) (wk G 146 rfl) (wk G 145 rfl) (by decide) pd18 rfl rfl (by rw [hml]; rfl) (Nat.le_of_ble_eq_true rfl) rfl rfl (by decide) (by decide) all0 (fun _ _ => sf0) (hb hby at_161) (k_v (pc' := 164) rfl ?_)
          rintro _ h410 ⟨rfl, rfl⟩ K411
          refine go_iload (pc' := 166) (hb hby at_164) rfl rfl ?_
          refine go_icF (pc' := 169) (hb hby at_166) rfl (by decide) ?_
          refine go_iconst (pc' := 170) (v := 1) (hb hby at_169) rfl rfl ?_
          refine go_goto (pc' := 174) (hb hby at_170) (by decide) rfl ?_
          have K412 : Keep h0 h405 [] := (K394.trans K406 (allS (Or.inr (Nat.le_trans K385.1 (Nat.le_of_eq g379))) all0))
          refine go_ireturn hret hlk rfl (by simp) (hb hby at_174) (by decide) (by decide) ⟨_, rfl, rfl⟩ K412
        · refine go_icF (pc' := 115) (hb hby at_112) rfl (XT.ii_lt_f c359) ?_
          refine go_aload (pc' := 117) (hb hby at_115) rfl rfl rfl ?_
          refine go_aload (pc' := 119) (hb hby at_117) rfl rfl rfl ?_
          have E413 := (E346.keep K350)
          have K414 : Keep h0 h212 [] := (K221.ext X215)
          have K415 : Keep h0 h226 [] := (K414.trans K227 (allS (Or.inr (Nat.le_trans K221.1 (Nat.le_of_eq g214))) all0))
          have K416 : Keep h212 h226 [a213] := ((Keep.refl h212 [a213]).trans K227 (allS (Or.inl (by simp)) all0))
          have K417 : Keep h207 h212 [] := ((Keep.refl h207 []).ext X215)
          have K418 : Keep h207 h226 [] := (K417.trans K227 (allS (Or.inr (Nat.le_of_eq g214)) all0))
          have K419 : Keep h207 h349 [] := (K418.trans K350 (allS (Or.inr (Nat.le_of_eq g214)) all0))
          have E420 := (f211.exa.keep K419)
          refine go_old (fun O421 => ?_)
          refine callV0 (cells' := 7) (slots' := 24) (Wd := 0) (argsL := [(.ref r209)]) (rest := []) (pay_of (a0 := a0) (c_addb l G a213 r209 r351 r352 a190 h349 O421 E413 (Nat.le_trans O0.2.1 (Nat.le_trans K221.1 (Nat.le_of_eq g214))) f354 (Nat.le_trans O0.2.1 (Nat.le_trans K415.1 f353)) (Nat.ne_of_lt (Nat.lt_of_lt_of_le (Nat.lt_of_lt_of_le E216.lt K416.1) f353)) f355 f356 E420 f357 f358) (wk G 175 rfl) (wk G 154 rfl) (by decide) (by decide)) E413 (wk G 171 rfl) (wk G 172 rfl) (wk G 174 rfl) (wk G 174 rfl) (wk G 173 rfl) (by decide) pd19 rfl rfl (by rw [hml]; rfl) (Nat.le_of_ble_eq_true rfl) rfl rfl (by decide) (by decide) (allS (Nat.le_trans O0.2.1 (Nat.le_trans K221.1 (Nat.le_of_eq g214))) (allS (Nat.le_trans O0.2.1 (Nat.le_trans K415.1 f353)) all0)) (fun _ hal => (sfS (Safe.exa hal E413 (by decide) (by decide)) (sfS (Safe.arv hal f357 (by simp)) sf0))) (hb hby at_119) (k_v (pc' := 122) rfl ?_)
          rintro _ h422 rfl K423
          refine go_pop (pc' := 123) (hb hby at_122) rfl rfl ?_
          refine go_newO (pc' := 126) (cells' := 8) (slots' := 27) (wk G 52 rfl) (wk G 53 rfl) (wk G 54 rfl) (hb hby at_123) rfl rfl rfl (by decide) (by decide) (fun h424 a425 g426 X427 E428 D429 U430 => ?_)
          refine go_dup (pc' := 127) (hb hby at_126) rfl rfl ?_
          refine go_aload (pc' := 129) (hb hby at_127) rfl rfl rfl ?_
          refine go_iload (pc' := 131) (hb hby at_129) rfl rfl ?_
          refine go_iload (pc' := 133) (hb hby at_131) rfl rfl ?_
          have K431 : Keep h0 h349 [] := (K415.trans K350 (allS (Or.inr (Nat.le_trans K221.1 (Nat.le_of_eq g214))) all0))
          have K432 : Keep h0 h422 [] := (K431.trans K423 (allS (Or.inr (Nat.le_trans K221.1 (Nat.le_of_eq g214))) (allS (Or.inr (Nat.le_trans K415.1 f353)) all0)))
          have E433 := (((E347.keep K350).keep K423).ext X427)
          have F434 := D429 (Or.inr (wk G 68 rfl)) (ty := (.object "java/lang/String")) (by decide)
          have F435 := D429 (Or.inr (wk G 70 rfl)) (ty := .int) (by decide)
          have F436 := D429 (Or.inr (wk G 72 rfl)) (ty := .int) (by decide)
          refine go_old (fun O437 => ?_)
          refine callIW0 rfl (cells' := 10) (slots' := 47) (Wd := 1) (argsL := [(.ref a190), (.int x4), (.int x5)]) (rest := [(.ref a425)]) (payW_of (a0 := a0) (c_plinit l G a425 a190 x4 x5 h424 O437 E428 (Nat.le_trans O0.2.1 (Nat.le_trans K432.1 (Nat.le_of_eq g426))) E433 F434 F435 F436) (wk G 57 rfl) (wk G 54 rfl) (by decide) (by decide) (ew1 G)) rfl (wk G 55 rfl) (wk G 56 rfl) (wk G 57 rfl) (by decide) pd16 rfl rfl (by rw [hml]; rfl) (Nat.le_of_ble_eq_true rfl) rfl rfl (by decide) (by decide) (allS (Nat.le_trans O0.2.1 (Nat.le_trans K432.1 (Nat.le_of_eq g426))) all0) (hb hby at_133) (k_n (pc' := 136) rfl ?_)
          rintro  h438 - K439
          refine go_astore (pc' := 138) (ls' := #[.val (.int x0), .val (.int x1), .val (.int x2), .val (.int x3), .val (.int x4), .val (.int x5), .val (.int (1 : Int32)), .val (.int (0 : Int32)), .val (.int (((XT.ushr x0 (2 : Int32)) &&& (2147483647 : Int32)) % (3 : Int32))), .val (.ref r178), .val (.ref a181), .val (.ref a190), .val (.ref r209), .val (.ref a213), .val (.ref a425), .unset]) (hb hby at_136) rfl rfl rfl ?_
          refine go_newO (pc' := 141) (cells' := 11) (slots' := 56) (wk G 73 rfl) (wk G 74 rfl) (wk G 75 rfl) (hb hby at_138) rfl rfl rfl (by decide) (by decide) (fun h440 a441 g442 X443 E444 D445 U446 => ?_)
          refine go_dup (pc' := 142) (hb hby at_141) rfl rfl ?_
          refine go_aload (pc' := 144) (hb hby at_142) rfl rfl rfl ?_
          refine go_aload (pc' := 146) (hb hby at_144) rfl rfl rfl ?_
          refine go_aload (pc' := 148) (hb hby at_146) rfl rfl rfl ?_
          refine go_iload (pc' := 150) (hb hby at_148) rfl rfl ?_
          refine go_aload (pc' := 152) (hb hby at_150) rfl rfl rfl ?_
          refine go_aload (pc' := 154) (hb hby at_152) rfl rfl rfl ?_
          have K447 : Keep h0 h424 [] := (K432.ext X427)
          have K448 : Keep h0 h438 [] := (K447.trans K439 (allS (Or.inr (Nat.le_trans K432.1 (Nat.le_of_eq g426))) all0))
          have E449 := ((E433.keep K439).ext X443)
          have E450 := ((((E420.keep K423).ext X427).keep K439).ext X443)
          have K451 : Keep h0 h440 [] := (K448.ext X443)
          have E452 := (f179.keep K451)
          have E453 := ((E428.keep K439).ext X443)
          have F454 := D445 (Or.inr (wk G 84 rfl)) (ty := (.object "java/lang/String")) (by decide)
          have F455 := D445 (Or.inr (wk G 87 rfl)) (ty := (.object "java/lang/String")) (by decide)
          have F456 := D445 (Or.inr (wk G 92 rfl)) (ty := (.object "com/example/hew/hew/Message$Field$Kind")) (by decide)
          have F457 := D445 (Or.inr (wk G 94 rfl)) (ty := .boolean) (by decide)
          have F458 := D445 (Or.inr (wk G 96 rfl)) (ty := (.object "java/util/List")) (by decide)
          have F459 := D445 (Or.inr (wk G 137 rfl)) (ty := (.object "java/util/List")) (by decide)
          have F460 := D445 (Or.inr (wk G 142 rfl)) (ty := (.object "com/example/hew/hew/Place")) (by decide)
          refine go_old (fun O461 => ?_)
          refine callIW0 rfl (cells' := 19) (slots' := 140) (Wd := 1) (argsL := [(.ref a190), (.ref r209), (.ref r178), (.int (0 : Int32)), (.ref a213), (.ref a425)]) (rest := [(.ref a441)]) (payW_of (a0 := a0) (c_fdinitR l G a441 a190 r209 r178 (0 : Int32) a213 a425 h440 O461 E444 (Nat.le_trans O0.2.1 (Nat.le_trans K448.1 (Nat.le_of_eq g442))) E449 E450 E452 E453 (⟨rfl, by decide⟩) F454 F455 F456 F457 F458 F459 F460) (wk G 78 rfl) (wk G 75 rfl) (by decide) (by decide) (ew1 G)) rfl (wk G 76 rfl) (wk G 77 rfl) (wk G 78 rfl) (by decide) pd17 rfl rfl (by rw [hml]; rfl) (Nat.le_of_ble_eq_true rfl) rfl rfl (by decide) (by decide) (allS (Nat.le_trans O0.2.1 (Nat.le_trans K448.1 (Nat.le_of_eq g442))) all0) (hb hby at_154) (k_n (pc' := 157) rfl ?_)
          rintro  h462 f464 K463
          refine go_astore (pc' := 159) (ls' := #[.val (.int x0), .val (.int x1), .val (.int x2), .val (.int x3), .val (.int x4), .val (.int x5), .val (.int (1 : Int32)), .val (.int (0 : Int32)), .val (.int (((XT.ushr x0 (2 : Int32)) &&& (2147483647 : Int32)) % (3 : Int32))), .val (.ref r178), .val (.ref a181), .val (.ref a190), .val (.ref r209), .val (.ref a213), .val (.ref a425), .val (.ref a441)]) (hb hby at_157) rfl rfl rfl ?_
          refine go_aload (pc' := 161) (hb hby at_159) rfl rfl rfl ?_
          refine go_old (fun O465 => ?_)
          have E466 := (E444.keep K463)
          refine callV0 (cells' := 19) (slots' := 140) (Wd := 0) (argsL := []) (rest := []) (pay_of (a0 := a0) (c_ismapR l G a441 a213 h462 O465 f464) (wk G 147 rfl) (wk G 75 rfl) (by decide) (by decide)) E466 (wk G 143 rfl) (wk G 144 rfl) (wk G 146 rfl) (wk G 146 rfl) (wk G 145 rfl) (by decide) pd18 rfl rfl (by rw [hml]; rfl) (Nat.le_of_ble_eq_true rfl) rfl rfl (by decide) (by decide) all0 (fun _ _ => sf0) (hb hby at_161) (k_v (pc' := 164) rfl ?_)
          rintro _ h467 ⟨rfl, rfl⟩ K468
          refine go_iload (pc' := 166) (hb hby at_164) rfl rfl ?_
          refine go_icF (pc' := 169) (hb hby at_166) rfl (by decide) ?_
          refine go_iconst (pc' := 170) (v := 1) (hb hby at_169) rfl rfl ?_
          refine go_goto (pc' := 174) (hb hby at_170) (by decide) rfl ?_
          have K469 : Keep h0 h462 [] := (K451.trans K463 (allS (Or.inr (Nat.le_trans K448.1 (Nat.le_of_eq g442))) all0))
          refine go_ireturn hret hlk rfl (by simp) (hb hby at_174) (by decide) (by decide) ⟨_, rfl, rfl⟩ K469
    · refine go_ifF (pc' := 19) (hb hby at_16) rfl (XT.i0_eq_f c175) ?_
      refine go_iconst (pc' := 20) (v := 1) (hb hby at_19) rfl rfl ?_
      refine go_goto (pc' := 24) (hb hby at_20) (by decide) rfl ?_
      refine go_istore (pc' := 26) (ls' := #[.val (.int x0), .val (.int x1), .val (.int x2), .val (.int x3), .val (.int x4), .val (.int x5), .val (.int (1 : Int32)), .val (.int (1 : Int32)), .unset, .unset, .unset, .unset, .unset, .unset, .unset, .unset]) (hb hby at_24) rfl rfl ?_
      refine go_iload_n (pc' := 27) (hb hby at_26) rfl rfl ?_
      refine go_iconst (pc' := 28) (v := 2) (hb hby at_27) rfl rfl ?_
      refine go_iushr (pc' := 29) (z := (XT.ushr x0 (2 : Int32))) (hb hby at_28) rfl rfl ?_
      refine go_ldcI (pc' := 31) (v := (2147483647 : Int32)) (wk G 0 rfl) (hb hby at_29) rfl ?_
      refine go_iand (pc' := 32) (z := ((XT.ushr x0 (2 : Int32)) &&& (2147483647 : Int32))) (hb hby at_31) rfl rfl ?_
      refine go_iconst (pc' := 33) (v := 3) (hb hby at_32) rfl rfl ?_
      refine go_irem (pc' := 34) (z := (((XT.ushr x0 (2 : Int32)) &&& (2147483647 : Int32)) % (3 : Int32))) (hb hby at_33) rfl (by decide) rfl ?_
      refine go_istore (pc' := 36) (ls' := #[.val (.int x0), .val (.int x1), .val (.int x2), .val (.int x3), .val (.int x4), .val (.int x5), .val (.int (1 : Int32)), .val (.int (1 : Int32)), .val (.int (((XT.ushr x0 (2 : Int32)) &&& (2147483647 : Int32)) % (3 : Int32))), .unset, .unset, .unset, .unset, .unset, .unset, .unset]) (hb hby at_34) rfl rfl ?_
      refine go_iload_n (pc' := 37) (hb hby at_36) rfl rfl ?_
      refine callS0 (cells' := 0) (slots' := 0) (Wd := 0) (argsL := [(.int x1)]) (rest := []) (pay_of (a0 := a0) (c_kindof l G x1 h0 O0 ) (wk G 4 rfl) (wk G 3 rfl) (by decide) (by decide)) (wk G 1 rfl) (wk G 2 rfl) (wk G 3 rfl) (wk G 4 rfl) (by decide) pd13 rfl rfl (by rw [hml]; rfl) (Nat.le_of_ble_eq_true rfl) rfl rfl (by decide) (by decide) all0 (fun _ _ => sf0) (hb hby at_37) (k_v (pc' := 40) rfl ?_)
      rintro _ h470 ⟨r472, rfl, rfl, f473⟩ K471
      refine go_astore (pc' := 42) (ls' := #[.val (.int x0), .val (.int x1), .val (.int x2), .val (.int x3), .val (.int x4), .val (.int x5), .val (.int (1 : Int32)), .val (.int (1 : Int32)), .val (.int (((XT.ushr x0 (2 : Int32)) &&& (2147483647 : Int32)) % (3 : Int32))), .val (.ref r472), .unset, .unset, .unset, .unset, .unset, .unset]) (hb hby at_40) rfl rfl rfl ?_
      refine go_iconst (pc' := 43) (v := 1) (hb hby at_42) rfl rfl ?_
      refine go_newP (pc' := 45) (cells' := 1) (slots' := 1) (cap := 1) (vs := [(.int (0 : Int32))]) (ty := .char) (dv := .int 0) (wk G 8 rfl) rfl rfl (hb hby at_43) rfl (by decide) rfl (by decide) rfl rfl rfl (by decide) (by decide) (fun h474 a475 k479 g476 X477 A478 => ?_)
      refine go_dup (pc' := 46) (hb hby at_45) rfl rfl ?_
      refine go_iconst (pc' := 47) (v := 0) (hb hby at_46) rfl rfl ?_
      refine go_iload_n (pc' := 48) (hb hby at_47) rfl rfl ?_
      refine go_sipush (pc' := 51) (v := 255) (hb hby at_48) rfl rfl ?_
      refine go_iand (pc' := 52) (z := (x2 &&& (255 : Int32))) (hb hby at_51) rfl rfl ?_
      refine go_i2c (pc' := 53) (z := (x2 &&& (255 : Int32))) (hb hby at_52) rfl (i2c_mask _) ?_
      refine go_stC (pc' := 54) (i := 0) (x' := (x2 &&& (255 : Int32))) (vs' := [(.int (x2 &&& (255 : Int32)))]) A478 (Nat.le_trans O0.2.1 (Nat.le_of_eq g476)) (by decide) (by decide) rfl (Nat.le_of_ble_eq_true rfl) (i2c_mask _) rfl (hb hby at_53) rfl (fun h480 W481 A482 => ?_)
      refine go_astore (pc' := 56) (ls' := #[.val (.int x0), .val (.int x1), .val (.int x2), .val (.int x3), .val (.int x4), .val (.int x5), .val (.int (1 : Int32)), .val (.int (1 : Int32)), .val (.int (((XT.ushr x0 (2 : Int32)) &&& (2147483647 : Int32)) % (3 : Int32))), .val (.ref r472), .val (.ref a475), .unset, .unset, .unset, .unset, .unset]) (hb hby at_54) rfl rfl rfl ?_
      refine go_newO (pc' := 59) (cells' := 2) (slots' := 5) (wk G 9 rfl) (wk G 10 rfl) (wk G 11 rfl) (hb hby at_56) rfl rfl rfl (by decide) (by decide) (fun h483 a484 g485 X486 E487 D488 U489 => ?_)
      refine go_dup (pc' := 60) (hb hby at_59) rfl rfl ?_
      refine go_aload (pc' := 62) (hb hby at_60) rfl rfl rfl ?_
      have F490 := D488 (Or.inr (wk G 37 rfl)) (ty := (.array .byte)) (by decide)
      have F491 := D488 (Or.inr (wk G 35 rfl)) (ty := .byte) (by decide)
      have K492 : Keep h480 h483 [] := ((Keep.refl h480 []).ext X486)
      have A493 := (A482.keep K492 nin0)
      refine go_old (fun O494 => ?_)
      have K495 : Keep h0 h474 [] := ((Keep.refl h0 []).ext X477)
      have K496 : Keep h0 h480 [] := (K495.wr W481 (Or.inr (Nat.le_of_eq g476)))
      refine callI0 (cells' := 3) (slots' := 6) (Wd := 1) (argsL := [(.ref a475)]) (rest := [(.ref a484)]) (pay_new G O494 (cs := [(x2 &&& (255 : Int32))]) (n := 1) (Nat.le_trans O0.2.1 (Nat.le_trans K496.1 (Nat.le_of_eq g485))) E487 F490 F491 A493 rfl rfl (by decide) (by decide) (c8c (c8_m _) c8n) (by decide) (by decide)) rfl (wk G 12 rfl) (wk G 13 rfl) (wk G 14 rfl) (by decide) pd14 rfl rfl (by rw [hml]; rfl) (Nat.le_of_ble_eq_true rfl) rfl rfl (by decide) (by decide) (allS (Nat.le_trans O0.2.1 (Nat.le_trans K496.1 (Nat.le_of_eq g485))) all0) (fun _ hal => (sfS (safe_null hal E487 F490) sf0)) (hb hby at_62) (k_n (pc' := 65) rfl ?_)
      rintro h497 S499 K498
      refine go_astore (pc' := 67) (ls' := #[.val (.int x0), .val (.int x1), .val (.int x2), .val (.int x3), .val (.int x4), .val (.int x5), .val (.int (1 : Int32)), .val (.int (1 : Int32)), .val (.int (((XT.ushr x0 (2 : Int32)) &&& (2147483647 : Int32)) % (3 : Int32))), .val (.ref r472), .val (.ref a475), .val (.ref a484), .unset, .unset, .unset, .unset]) (hb hby at_65) rfl rfl rfl ?_
      refine go_iload_n (pc' := 68) (hb hby at_67) rfl rfl ?_
      refine go_sipush (pc' := 71) (v := 255) (hb hby at_68) rfl rfl ?_
      refine go_iand (pc' := 72) (z := (x3 &&& (255 : Int32))) (hb hby at_71) rfl rfl ?_
      refine go_i2c (pc' := 73) (z := (x3 &&& (255 : Int32))) (hb hby at_72) rfl (i2c_mask _) ?_
      refine go_old (fun O500 => ?_)
      refine callS0 (cells' := 5) (slots' := 11) (Wd := 0) (argsL := [(.int (x3 &&& (255 : Int32)))]) (rest := []) (pay_of (a0 := a0) (c_valueof l G (x3 &&& (255 : Int32)) h497 O500 (c8_m _)) (wk G 40 rfl) (wk G 11 rfl) (by decide) (by decide)) (wk G 38 rfl) (wk G 39 rfl) (wk G 11 rfl) (wk G 40 rfl) (by decide) pd15 rfl rfl (by rw [hml]; rfl) (Nat.le_of_ble_eq_true rfl) rfl rfl (by decide) (by decide) all0 (fun _ _ => sf0) (hb hby at_73) (k_v (pc' := 76) rfl ?_)
      rintro _ h501 ⟨r503, rfl, f504, f505⟩ K502
      refine go_astore (pc' := 78) (ls' := #[.val (.int x0), .val (.int x1), .val (.int x2), .val (.int x3), .val (.int x4), .val (.int x5), .val (.int (1 : Int32)), .val (.int (1 : Int32)), .val (.int (((XT.ushr x0 (2 : Int32)) &&& (2147483647 : Int32)) % (3 : Int32))), .val (.ref r472), .val (.ref a475), .val (.ref a484), .val (.ref r503), .unset, .unset, .unset]) (hb hby at_76) rfl rfl rfl ?_
      refine go_aconst_null (pc' := 79) (hb hby at_78) rfl ?_
      refine go_astore (pc' := 81) (ls' := #[.val (.int x0), .val (.int x1), .val (.int x2), .val (.int x3), .val (.int x4), .val (.int x5), .val (.int (1 : Int32)), .val (.int (1 : Int32)), .val (.int (((XT.ushr x0 (2 : Int32)) &&& (2147483647 : Int32)) % (3 : Int32))), .val (.ref r472), .val (.ref a475), .val (.ref a484), .val (.ref r503), .val .null, .unset, .unset]) (hb hby at_79) rfl rfl rfl ?_
      refine go_iload (pc' := 83) (hb hby at_81) rfl rfl ?_
      refine go_ifF (pc' := 86) (hb hby at_83) rfl (by decide) ?_
      refine go_newO (pc' := 89) (cells' := 6) (slots' := 14) (wk G 152 rfl) (wk G 153 rfl) (wk G 154 rfl) (hb hby at_86) rfl rfl rfl (by decide) (by decide) (fun h506 a507 g508 X509 E510 D511 U512 => ?_)
      refine go_dup (pc' := 90) (hb hby at_89) rfl rfl ?_
      have K513 : Keep h0 h483 [] := (K496.ext X486)
      have K514 : Keep h0 h497 [] := (K513.trans K498 (allS (Or.inr (Nat.le_trans K496.1 (Nat.le_of_eq g485))) all0))
      have K515 : Keep h0 h501 [] := (K514.trans K502 all0)
      have F516 := D511 (Or.inl (wk G 167 rfl)) (ty := .int) (by decide)
      have F517 := D511 (Or.inl (wk G 170 rfl)) (ty := (.array (.object "java/lang/Object"))) (by decide)
      have F518 := D511 (Or.inl (wk G 179 rfl)) (ty := .int) (by decide)
      refine go_old (fun O519 => ?_)
      refine callI0 (cells' := 6) (slots' := 14) (Wd := 1) (argsL := []) (rest := [(.ref a507)]) (pay_of (a0 := a0) (c_alinit l G a507 h506 O519 E510 (Nat.le_trans O0.2.1 (Nat.le_trans K515.1 (Nat.le_of_eq g508))) F516 F517 F518) (wk G 157 rfl) (wk G 154 rfl) (by decide) (by decide)) rfl (wk G 155 rfl) (wk G 156 rfl) (wk G 157 rfl) (by decide) pd5 rfl rfl (by rw [hml]; rfl) (Nat.le_of_ble_eq_true rfl) rfl rfl (by decide) (by decide) (allS (Nat.le_trans O0.2.1 (Nat.le_trans K515.1 (Nat.le_of_eq g508))) all0) (fun _ hal => (sfS (Safe.exa hal E510 (by decide) (by decide)) sf0)) (hb hby at_90) (k_n (pc' := 93) rfl ?_)
      rintro  h520 ⟨f522, f523, f524⟩ K521
      refine go_astore (pc' := 95) (ls' := #[.val (.int x0), .val (.int x1), .val (.int x2), .val (.int x3), .val (.int x4), .val (.int x5), .val (.int (1 : Int32)), .val (.int (1 : Int32)), .val (.int (((XT.ushr x0 (2 : Int32)) &&& (2147483647 : Int32)) % (3 : Int32))), .val (.ref r472), .val (.ref a475), .val (.ref a484), .val (.ref r503), .val (.ref a507), .unset, .unset]) (hb hby at_93) rfl rfl rfl ?_
      refine go_iload (pc' := 97) (hb hby at_95) rfl rfl ?_
      refine go_iconst (pc' := 98) (v := 1) (hb hby at_97) rfl rfl ?_
      by_cases c525 : (((XT.ushr x0 (2 : Int32)) &&& (2147483647 : Int32)) % (3 : Int32)) < (1 : Int32)
      · refine go_icT (pc' := 109) (hb hby at_98) (by decide) rfl (XT.ii_lt_t c525) ?_
        refine go_iload (pc' := 111) (hb hby at_109) rfl rfl ?_
        refine go_iconst (pc' := 112) (v := 2) (hb hby at_111) rfl rfl ?_
        by_cases c526 : (((XT.ushr x0 (2 : Int32)) &&& (2147483647 : Int32)) % (3 : Int32)) < (2 : Int32)
        · refine go_icT (pc' := 123) (hb hby at_112) (by decide) rfl (XT.ii_lt_t c526) ?_
          refine go_newO (pc' := 126) (cells' := 7) (slots' := 17) (wk G 52 rfl) (wk G 53 rfl) (wk G 54 rfl) (hb hby at_123) rfl rfl rfl (by decide) (by decide) (fun h527 a528 g529 X530 E531 D532 U533 => ?_)
          refine go_dup (pc' := 127) (hb hby at_126) rfl rfl ?_
          refine go_aload (pc' := 129) (hb hby at_127) rfl rfl rfl ?_
          refine go_iload (pc' := 131) (hb hby at_129) rfl rfl ?_
          refine go_iload (pc' := 133) (hb hby at_131) rfl rfl ?_
          have K534 : Keep h0 h506 [] := (K515.ext X509)
          have K535 : Keep h0 h520 [] := (K534.trans K521 (allS (Or.inr (Nat.le_trans K515.1 (Nat.le_of_eq g508))) all0))
          have E536 := (((((E487.keep K498).keep K502).ext X509).keep K521).ext X530)
          have F537 := D532 (Or.inr (wk G 68 rfl)) (ty := (.object "java/lang/String")) (by decide)
          have F538 := D532 (Or.inr (wk G 70 rfl)) (ty := .int) (by decide)
          have F539 := D532 (Or.inr (wk G 72 rfl)) (ty := .int) (by decide)
          refine go_old (fun O540 => ?_)
          refine callIW0 rfl (cells' := 9) (slots' := 37) (Wd := 1) (argsL := [(.ref a484), (.int x4), (.int x5)]) (rest := [(.ref a528)]) (payW_of (a0 := a0) (c_plinit l G a528 a484 x4 x5 h527 O540 E531 (Nat.le_trans O0.2.1 (Nat.le_trans K535.1 (Nat.le_of_eq g529))) E536 F537 F538 F539) (wk G 57 rfl) (wk G 54 rfl) (by decide) (by decide) (ew1 G)) rfl (wk G 55 rfl) (wk G 56 rfl) (wk G 57 rfl) (by decide) pd16 rfl rfl (by rw [hml]; rfl) (Nat.le_of_ble_eq_true rfl) rfl rfl (by decide) (by decide) (allS (Nat.le_trans O0.2.1 (Nat.le_trans K535.1 (Nat.le_of_eq g529))) all0) (hb hby at_133) (k_n (pc' := 136) rfl ?_)
          rintro  h541 - K542
          refine go_astore (pc' := 138) (ls' := #[.val (.int x0), .val (.int x1), .val (.int x2), .val (.int x3), .val (.int x4), .val (.int x5), .val (.int (1 : Int32)), .val (.int (1 : Int32)), .val (.int (((XT.ushr x0 (2 : Int32)) &&& (2147483647 : Int32)) % (3 : Int32))), .val (.ref r472), .val (.ref a475), .val (.ref a484), .val (.ref r503), .val (.ref a507), .val (.ref a528), .unset]) (hb hby at_136) rfl rfl rfl ?_
          refine go_newO (pc' := 141) (cells' := 10) (slots' := 46) (wk G 73 rfl) (wk G 74 rfl) (wk G 75 rfl) (hb hby at_138) rfl rfl rfl (by decide) (by decide) (fun h543 a544 g545 X546 E547 D548 U549 => ?_)
          refine go_dup (pc' := 142) (hb hby at_141) rfl rfl ?_
          refine go_aload (pc' := 144) (hb hby at_142) rfl rfl rfl ?_
          refine go_aload (pc' := 146) (hb hby at_144) rfl rfl rfl ?_
          refine go_aload (pc' := 148) (hb hby at_146) rfl rfl rfl ?_
          refine go_iload (pc' := 150) (hb hby at_148) rfl rfl ?_
          refine go_aload (pc' := 152) (hb hby at_150) rfl rfl rfl ?_
          refine go_aload (pc' := 154) (hb hby at_152) rfl rfl rfl ?_
          have K550 : Keep h0 h527 [] := (K535.ext X530)
          have K551 : Keep h0 h541 [] := (K550.trans K542 (allS (Or.inr (Nat.le_trans K535.1 (Nat.le_of_eq g529))) all0))
          have E552 := ((E536.keep K542).ext X546)
          have K553 : Keep h501 h506 [] := ((Keep.refl h501 []).ext X509)
          have K554 : Keep h501 h520 [] := (K553.trans K521 (allS (Or.inr (Nat.le_of_eq g508)) all0))
          have K555 : Keep h501 h527 [] := (K554.ext X530)
          have K556 : Keep h501 h541 [] := (K555.trans K542 (allS (Or.inr (Nat.le_trans K554.1 (Nat.le_of_eq g529))) all0))
          have K557 : Keep h501 h543 [] := (K556.ext X546)
          have E558 := (f505.exa.keep K557)
          have K559 : Keep h0 h543 [] := (K551.ext X546)
          have E560 := (f473.keep K559)
          have E561 := ((E531.keep K542).ext X546)
          have F562 := D548 (Or.inr (wk G 84 rfl)) (ty := (.object "java/lang/String")) (by decide)
          have F563 := D548 (Or.inr (wk G 87 rfl)) (ty := (.object "java/lang/String")) (by decide)
          have F564 := D548 (Or.inr (wk G 92 rfl)) (ty := (.object "com/example/hew/hew/Message$Field$Kind")) (by decide)
          have F565 := D548 (Or.inr (wk G 94 rfl)) (ty := .boolean) (by decide)
          have F566 := D548 (Or.inr (wk G 96 rfl)) (ty := (.object "java/util/List")) (by decide)
          have F567 := D548 (Or.inr (wk G 137 rfl)) (ty := (.object "java/util/List")) (by decide)
          have F568 := D548 (Or.inr (wk G 142 rfl)) (ty := (.object "com/example/hew/hew/Place")) (by decide)
          refine go_old (fun O569 => ?_)
          refine callIW0 rfl (cells' := 18) (slots' := 130) (Wd := 1) (argsL := [(.ref a484), (.ref r503), (.ref r472), (.int (1 : Int32)), (.ref a507), (.ref a528)]) (rest := [(.ref a544)]) (payW_of (a0 := a0) (c_fdinitR l G a544 a484 r503 r472 (1 : Int32) a507 a528 h543 O569 E547 (Nat.le_trans O0.2.1 (Nat.le_trans K551.1 (Nat.le_of_eq g545))) E552 E558 E560 E561 (⟨rfl, by decide⟩) F562 F563 F564 F565 F566 F567 F568) (wk G 78 rfl) (wk G 75 rfl) (by decide) (by decide) (ew1 G)) rfl (wk G 76 rfl) (wk G 77 rfl) (wk G 78 rfl) (by decide) pd17 rfl rfl (by rw [hml]; rfl) (Nat.le_of_ble_eq_true rfl) rfl rfl (by decide) (by decide) (allS (Nat.le_trans O0.2.1 (Nat.le_trans K551.1 (Nat.le_of_eq g545))) all0) (hb hby at_154) (k_n (pc' := 157) rfl ?_)
          rintro  h570 f572 K571
          refine go_astore (pc' := 159) (ls' := #[.val (.int x0), .val (.int x1), .val (.int x2), .val (.int x3), .val (.int x4), .val (.int x5), .val (.int (1 : Int32)), .val (.int (1 : Int32)), .val (.int (((XT.ushr x0 (2 : Int32)) &&& (2147483647 : Int32)) % (3 : Int32))), .val (.ref r472), .val (.ref a475), .val (.ref a484), .val (.ref r503), .val (.ref a507), .val (.ref a528), .val (.ref a544)]) (hb hby at_157) rfl rfl rfl ?_
          refine go_aload (pc' := 161) (hb hby at_159) rfl rfl rfl ?_
          refine go_old (fun O573 => ?_)
          have E574 := (E547.keep K571)
          refine callV0 (cells' := 18) (slots' := 130) (Wd := 0) (argsL := []) (rest := []) (pay_of (a0 := a0) (c_ismapR l G a544 a507 h570 O573 f572) (wk G 147 rfl) (wk G 75 rfl) (by decide) (by decide)) E574 (wk G 143 rfl) (wk G 144 rfl) (wk G 146 rfl) (wk G 146 rfl) (wk G 145 rfl) (by decide) pd18 rfl rfl (by rw [hml]; rfl) (Nat.le_of_ble_eq_true rfl) rfl rfl (by decide) (by decide) all0 (fun _ _ => sf0) (hb hby at_161) (k_v (pc' := 164) rfl ?_)
          rintro _ h575 ⟨rfl, rfl⟩ K576
          refine go_iload (pc' := 166) (hb hby at_164) rfl rfl ?_
          refine go_icF (pc' := 169) (hb hby at_166) rfl (by decide) ?_
          refine go_iconst (pc' := 170) (v := 1) (hb hby at_169) rfl rfl ?_
          refine go_goto (pc' := 174) (hb hby at_170) (by decide) rfl ?_
          have K577 : Keep h0 h570 [] := (K559.trans K571 (allS (Or.inr (Nat.le_trans K551.1 (Nat.le_of_eq g545))) all0))
          refine go_ireturn hret hlk rfl (by simp) (hb hby at_174) (by decide) (by decide) ⟨_, rfl, rfl⟩ K577
        · refine go_icF (pc' := 115) (hb hby at_112) rfl (XT.ii_lt_f c526) ?_
          refine go_aload (pc' := 117) (hb hby at_115) rfl rfl rfl ?_
          refine go_aload (pc' := 119) (hb hby at_117) rfl rfl rfl ?_
          have E578 := (E510.keep K521)
          have K579 : Keep h501 h506 [] := ((Keep.refl h501 []).ext X509)
          have K580 : Keep h501 h520 [] := (K579.trans K521 (allS (Or.inr (Nat.le_of_eq g508)) all0))
          have E581 := (f505.exa.keep K580)
          refine go_old (fun O582 => ?_)
          refine callV0 (cells' := 7) (slots' := 24) (Wd := 0) (argsL := [(.ref r503)]) (rest := []) (pay_of (a0 := a0) (c_adda l G a507 r503 h520 O582 E578 (Nat.le_trans O0.2.1 (Nat.le_trans K515.1 (Nat.le_of_eq g508))) f523 f524 f522 E581) (wk G 175 rfl) (wk G 154 rfl) (by decide) (by decide)) E578 (wk G 171 rfl) (wk G 172 rfl) (wk G 174 rfl) (wk G 174 rfl) (wk G 173 rfl) (by decide) pd19 rfl rfl (by rw [hml]; rfl) (Nat.le_of_ble_eq_true rfl) rfl rfl (by decide) (by decide) (allS (Nat.le_trans O0.2.1 (Nat.le_trans K515.1 (Nat.le_of_eq g508))) all0) (fun _ hal => (sfS (Safe.exa hal E578 (by decide) (by decide)) sf0)) (hb hby at_119) (k_v (pc' := 122) rfl ?_)
          rintro _ h583 ⟨r585, r586, rfl, f587, f588, f589, f590, f591, f592⟩ K584
          refine go_pop (pc' := 123) (hb hby at_122) rfl rfl ?_
          refine go_newO (pc' := 126) (cells' := 8) (slots' := 27) (wk G 52 rfl) (wk G 53 rfl) (wk G 54 rfl) (hb hby at_123) rfl rfl rfl (by decide) (by decide) (fun h593 a594 g595 X596 E597 D598 U599 => ?_)
          refine go_dup (pc' := 127) (hb hby at_126) rfl rfl ?_
          refine go_aload (pc' := 129) (hb hby at_127) rfl rfl rfl ?_
          refine go_iload (pc' := 131) (hb hby at_129) rfl rfl ?_
          refine go_iload (pc' := 133) (hb hby at_131) rfl rfl ?_
          have K600 : Keep h0 h506 [] := (K515.ext X509)
          have K601 : Keep h0 h520 [] := (K600.trans K521 (allS (Or.inr (Nat.le_trans K515.1 (Nat.le_of_eq g508))) all0))
          have K602 : Keep h0 h583 [] := (K601.trans K584 (allS (Or.inr (Nat.le_trans K515.1 (Nat.le_of_eq g508))) all0))
          have E603 := ((((((E487.keep K498).keep K502).ext X509).keep K521).keep K584).ext X596)
          have F604 := D598 (Or.inr (wk G 68 rfl)) (ty := (.object "java/lang/String")) (by decide)
          have F605 := D598 (Or.inr (wk G 70 rfl)) (ty := .int) (by decide)
          have F606 := D598 (Or.inr (wk G 72 rfl)) (ty := .int) (by decide)
          refine go_old (fun O607 => ?_)
          refine callIW0 rfl (cells' := 10) (slots' := 47) (Wd := 1) (argsL := [(.ref a484), (.int x4), (.int x5)]) (rest := [(.ref a594)]) (payW_of (a0 := a0) (c_plinit l G a594 a484 x4 x5 h593 O607 E597 (Nat.le_trans O0.2.1 (Nat.le_trans K602.1 (Nat.le_of_eq g595))) E603 F604 F605 F606) (wk G 57 rfl) (wk G 54 rfl) (by decide) (by decide) (ew1 G)) rfl (wk G 55 rfl) (wk G 56 rfl) (wk G 57 rfl) (by decide) pd16 rfl rfl (by rw [hml]; rfl) (Nat.le_of_ble_eq_true rfl) rfl rfl (by decide) (by decide) (allS (Nat.le_trans O0.2.1 (Nat.le_trans K602.1 (Nat.le_of_eq g595))) all0) (hb hby at_133) (k_n (pc' := 136) rfl ?_)
          rintro  h608 - K609
          refine go_astore (pc' := 138) (ls' := #[.val (.int x0), .val (.int x1), .val (.int x2), .val (.int x3), .val (.int x4), .val (.int x5), .val (.int (1 : Int32)), .val (.int (1 : Int32)), .val (.int (((XT.ushr x0 (2 : Int32)) &&& (2147483647 : Int32)) % (3 : Int32))), .val (.ref r472), .val (.ref a475), .val (.ref a484), .val (.ref r503), .val (.ref a507), .val (.ref a594), .unset]) (hb hby at_136) rfl rfl rfl ?_
          refine go_newO (pc' := 141) (cells' := 11) (slots' := 56) (wk G 73 rfl) (wk G 74 rfl) (wk G 75 rfl) (hb hby at_138) rfl rfl rfl (by decide) (by decide) (fun h610 a611 g612 X613 E614 D615 U616 => ?_)
          refine go_dup (pc' := 142) (hb hby at_141) rfl rfl ?_
          refine go_aload (pc' := 144) (hb hby at_142) rfl rfl rfl ?_
          refine go_aload (pc' := 146) (hb hby at_144) rfl rfl rfl ?_
          refine go_aload (pc' := 148) (hb hby at_146) rfl rfl rfl ?_
          refine go_iload (pc' := 150) (hb hby at_148) rfl rfl ?_
          refine go_aload (pc' := 152) (hb hby at_150) rfl rfl rfl ?_
          refine go_aload (pc' := 154) (hb hby at_152) rfl rfl rfl ?_
          have K617 : Keep h0 h593 [] := (K602.ext X596)
          have K618 : Keep h0 h608 [] := (K617.trans K609 (allS (Or.inr (Nat.le_trans K602.1 (Nat.le_of_eq g595))) all0))
          have E619 := ((E603.keep K609).ext X613)
          have E620 := ((((E581.keep K584).ext X596).keep K609).ext X613)
          have K621 : Keep h0 h610 [] := (K618.ext X613)
          have E622 := (f473.keep K621)
          have E623 := ((E597.keep K609).ext X613)
          have F624 := D615 (Or.inr (wk G 84 rfl)) (ty := (.object "java/lang/String")) (by decide)
          have F625 := D615 (Or.inr (wk G 87 rfl)) (ty := (.object "java/lang/String")) (by decide)
          have F626 := D615 (Or.inr (wk G 92 rfl)) (ty := (.object "com/example/hew/hew/Message$Field$Kind")) (by decide)
          have F627 := D615 (Or.inr (wk G 94 rfl)) (ty := .boolean) (by decide)
          have F628 := D615 (Or.inr (wk G 96 rfl)) (ty := (.object "java/util/List")) (by decide)
          have F629 := D615 (Or.inr (wk G 137 rfl)) (ty := (.object "java/util/List")) (by decide)
          have F630 := D615 (Or.inr (wk G 142 rfl)) (ty := (.object "com/example/hew/hew/Place")) (by decide)
          refine go_old (fun O631 => ?_)
          refine callIW0 rfl (cells' := 19) (slots' := 140) (Wd := 1) (argsL := [(.ref a484), (.ref r503), (.ref r472), (.int (1 : Int32)), (.ref a507), (.ref a594)]) (rest := [(.ref a611)]) (payW_of (a0 := a0) (c_fdinitR l G a611 a484 r503 r472 (1 : Int32) a507 a594 h610 O631 E614 (Nat.le_trans O0.2.1 (Nat.le_trans K618.1 (Nat.le_of_eq g612))) E619 E620 E622 E623 (⟨rfl, by decide⟩) F624 F625 F626 F627 F628 F629 F630) (wk G 78 rfl) (wk G 75 rfl) (by decide) (by decide) (ew1 G)) rfl (wk G 76 rfl) (wk G 77 rfl) (wk G 78 rfl) (by decide) pd17 rfl rfl (by rw [hml]; rfl) (Nat.le_of_ble_eq_true rfl) rfl rfl (by decide) (by decide) (allS (Nat.le_trans O0.2.1 (Nat.le_trans K618.1 (Nat.le_of_eq g612))) all0) (hb hby at_154) (k_n (pc' := 157) rfl ?_)
          rintro  h632 f634 K633
          refine go_astore (pc' := 159) (ls' := #[.val (.int x0), .val (.int x1), .val (.int x2), .val (.int x3), .val (.int x4), .val (.int x5), .val (.int (1 : Int32)), .val (.int (1 : Int32)), .val (.int (((XT.ushr x0 (2 : Int32)) &&& (2147483647 : Int32)) % (3 : Int32))), .val (.ref r472), .val (.ref a475), .val (.ref a484), .val (.ref r503), .val (.ref a507), .val (.ref a594), .val (.ref a611)]) (hb hby at_157) rfl rfl rfl ?_
          refine go_aload (pc' := 161) (hb hby at_159) rfl rfl rfl ?_
          refine go_old (fun O635 => ?_)
          have E636 := (E614.keep K633)
          refine callV0 (cells' := 19) (slots' := 140) (Wd := 0) (argsL := []) (rest := []) (pay_of (a0 := a0) (c_ismapR l G a611 a507 h632 O635 f634) (wk G 147 rfl) (wk G 75 rfl) (by decide) (by decide)) E636 (wk G 143 rfl) (wk G 144 rfl) (wk G 146 rfl) (wk G 146 rfl) (wk G 145 rfl) (by decide) pd18 rfl rfl (by rw [hml]; rfl) (Nat.le_of_ble_eq_true rfl) rfl rfl (by decide) (by decide) all0 (fun _ _ => sf0) (hb hby at_161) (k_v (pc' := 164) rfl ?_)
          rintro _ h637 ⟨rfl, rfl⟩ K638
          refine go_iload (pc' := 166) (hb hby at_164) rfl rfl ?_
          refine go_icF (pc' := 169) (hb hby at_166) rfl (by decide) ?_
          refine go_iconst (pc' := 170) (v := 1) (hb hby at_169) rfl rfl ?_
          refine go_goto (pc' := 174) (hb hby at_170) (by decide) rfl ?_
          have K639 : Keep h0 h632 [] := (K621.trans K633 (allS (Or.inr (Nat.le_trans K618.1 (Nat.le_of_eq g612))) all0))
          refine go_ireturn hret hlk rfl (by simp) (hb hby at_174) (by decide) (by decide) ⟨_, rfl, rfl⟩ K639
      · refine go_icF (pc' := 101) (hb hby at_98) rfl (XT.ii_lt_f c525) ?_
        refine go_aload (pc' := 103) (hb hby at_101) rfl rfl rfl ?_
        refine go_aload (pc' := 105) (hb hby at_103) rfl rfl rfl ?_
        have E640 := (E510.keep K521)
        have E641 := ((((E487.keep K498).keep K502).ext X509).keep K521)
        refine go_old (fun O642 => ?_)
        refine callV0 (cells' := 7) (slots' := 24) (Wd := 0) (argsL := [(.ref a484)]) (rest := []) (pay_of (a0 := a0) (c_adda l G a507 a484 h520 O642 E640 (Nat.le_trans O0.2.1 (Nat.le_trans K515.1 (Nat.le_of_eq g508))) f523 f524 f522 E641) (wk G 175 rfl) (wk G 154 rfl) (by decide) (by decide)) E640 (wk G 171 rfl) (wk G 172 rfl) (wk G 174 rfl) (wk G 174 rfl) (wk G 173 rfl) (by decide) pd19 rfl rfl (by rw [hml]; rfl) (Nat.le_of_ble_eq_true rfl) rfl rfl (by decide) (by decide) (allS (Nat.le_trans O0.2.1 (Nat.le_trans K515.1 (Nat.le_of_eq g508))) all0) (fun _ hal => (sfS (Safe.exa hal E640 (by decide) (by decide)) sf0)) (hb hby at_105) (k_v (pc' := 108) rfl ?_)
        rintro _ h643 ⟨r645, r646, rfl, f647, f648, f649, f650, f651, f652⟩ K644
        refine go_pop (pc' := 109) (hb hby at_108) rfl rfl ?_
        refine go_iload (pc' := 111) (hb hby at_109) rfl rfl ?_
        refine go_iconst (pc' := 112) (v := 2) (hb hby at_111) rfl rfl ?_
        by_cases c653 : (((XT.ushr x0 (2 : Int32)) &&& (2147483647 : Int32)) % (3 : Int32)) < (2 : Int32)
        · refine go_icT (pc' := 123) (hb hby at_112) (by decide) rfl (XT.ii_lt_t c653) ?_
          refine go_newO (pc' := 126) (cells' := 8) (slots' := 27) (wk G 52 rfl) (wk G 53 rfl) (wk G 54 rfl) (hb hby at_123) rfl rfl rfl (by decide) (by decide) (fun h654 a655 g656 X657 E658 D659 U660 => ?_)
          refine go_dup (pc' := 127) (hb hby at_126) rfl rfl ?_
          refine go_aload (pc' := 129) (hb hby at_127) rfl rfl rfl ?_
          refine go_iload (pc' := 131) (hb hby at_129) rfl rfl ?_
          refine go_iload (pc' := 133) (hb hby at_131) rfl rfl ?_
          have K661 : Keep h0 h506 [] := (K515.ext X509)
          have K662 : Keep h0 h520 [] := (K661.trans K521 (allS (Or.inr (Nat.le_trans K515.1 (Nat.le_of_eq g508))) all0))
          have K663 : Keep h0 h643 [] := (K662.trans K644 (allS (Or.inr (Nat.le_trans K515.1 (Nat.le_of_eq g508))) all0))
          have E664 := ((E641.keep K644).ext X657)
          have F665 := D659 (Or.inr (wk G 68 rfl)) (ty := (.object "java/lang/String")) (by decide)
          have F666 := D659 (Or.inr (wk G 70 rfl)) (ty := .int) (by decide)
          have F667 := D659 (Or.inr (wk G 72 rfl)) (ty := .int) (by decide)
          refine go_old (fun O668 => ?_)
          refine callIW0 rfl (cells' := 10) (slots' := 47) (Wd := 1) (argsL := [(.ref a484), (.int x4), (.int x5)]) (rest := [(.ref a655)]) (payW_of (a0 := a0) (c_plinit l G a655 a484 x4 x5 h654 O668 E658 (Nat.le_trans O0.2.1 (Nat.le_trans K663.1 (Nat.le_of_eq g656))) E664 F665 F666 F667) (wk G 57 rfl) (wk G 54 rfl) (by decide) (by decide) (ew1 G)) rfl (wk G 55 rfl) (wk G 56 rfl) (wk G 57 rfl) (by decide) pd16 rfl rfl (by rw [hml]; rfl) (Nat.le_of_ble_eq_true rfl) rfl rfl (by decide) (by decide) (allS (Nat.le_trans O0.2.1 (Nat.le_trans K663.1 (Nat.le_of_eq g656))) all0) (hb hby at_133) (k_n (pc' := 136) rfl ?_)
          rintro  h669 - K670
          refine go_astore (pc' := 138) (ls' := #[.val (.int x0), .val (.int x1), .val (.int x2), .val (.int x3), .val (.int x4), .val (.int x5), .val (.int (1 : Int32)), .val (.int (1 : Int32)), .val (.int (((XT.ushr x0 (2 : Int32)) &&& (2147483647 : Int32)) % (3 : Int32))), .val (.ref r472), .val (.ref a475), .val (.ref a484), .val (.ref r503), .val (.ref a507), .val (.ref a655), .unset]) (hb hby at_136) rfl rfl rfl ?_
          refine go_newO (pc' := 141) (cells' := 11) (slots' := 56) (wk G 73 rfl) (wk G 74 rfl) (wk G 75 rfl) (hb hby at_138) rfl rfl rfl (by decide) (by decide) (fun h671 a672 g673 X674 E675 D676 U677 => ?_)
          refine go_dup (pc' := 142) (hb hby at_141) rfl rfl ?_
          refine go_aload (pc' := 144) (hb hby at_142) rfl rfl rfl ?_
          refine go_aload (pc' := 146) (hb hby at_144) rfl rfl rfl ?_
          refine go_aload (pc' := 148) (hb hby at_146) rfl rfl rfl ?_
          refine go_iload (pc' := 150) (hb hby at_148) rfl rfl ?_
          refine go_aload (pc' := 152) (hb hby at_150) rfl rfl rfl ?_
          refine go_aload (pc' := 154) (hb hby at_152) rfl rfl rfl ?_
          have K678 : Keep h0 h654 [] := (K663.ext X657)
          have K679 : Keep h0 h669 [] := (K678.trans K670 (allS (Or.inr (Nat.le_trans K663.1 (Nat.le_of_eq g656))) all0))
          have E680 := ((E664.keep K670).ext X674)
          have K681 : Keep h501 h506 [] := ((Keep.refl h501 []).ext X509)
          have K682 : Keep h501 h520 [] := (K681.trans K521 (allS (Or.inr (Nat.le_of_eq g508)) all0))
          have K683 : Keep h501 h643 [] := (K682.trans K644 (allS (Or.inr (Nat.le_of_eq g508)) all0))
          have K684 : Keep h501 h654 [] := (K683.ext X657)
          have K685 : Keep h501 h669 [] := (K684.trans K670 (allS (Or.inr (Nat.le_trans K683.1 (Nat.le_of_eq g656))) all0))
          have K686 : Keep h501 h671 [] := (K685.ext X674)
          have E687 := (f505.exa.keep K686)
          have K688 : Keep h0 h671 [] := (K679.ext X674)
          have E689 := (f473.keep K688)
          have E690 := ((E658.keep K670).ext X674)
          have F691 := D676 (Or.inr (wk G 84 rfl)) (ty := (.object "java/lang/String")) (by decide)
          have F692 := D676 (Or.inr (wk G 87 rfl)) (ty := (.object "java/lang/String")) (by decide)
          have F693 := D676 (Or.inr (wk G 92 rfl)) (ty := (.object "com/example/hew/hew/Message$Field$Kind")) (by decide)
          have F694 := D676 (Or.inr (wk G 94 rfl)) (ty := .boolean) (by decide)
          have F695 := D676 (Or.inr (wk G 96 rfl)) (ty := (.object "java/util/List")) (by decide)
          have F696 := D676 (Or.inr (wk G 137 rfl)) (ty := (.object "java/util/List")) (by decide)
          have F697 := D676 (Or.inr (wk G 142 rfl)) (ty := (.object "com/example/hew/hew/Place")) (by decide)
          refine go_old (fun O698 => ?_)
          refine callIW0 rfl (cells' := 19) (slots' := 140) (Wd := 1) (argsL := [(.ref a484), (.ref r503), (.ref r472), (.int (1 : Int32)), (.ref a507), (.ref a655)]) (rest := [(.ref a672)]) (payW_of (a0 := a0) (c_fdinitR l G a672 a484 r503 r472 (1 : Int32) a507 a655 h671 O698 E675 (Nat.le_trans O0.2.1 (Nat.le_trans K679.1 (Nat.le_of_eq g673))) E680 E687 E689 E690 (⟨rfl, by decide⟩) F691 F692 F693 F694 F695 F696 F697) (wk G 78 rfl) (wk G 75 rfl) (by decide) (by decide) (ew1 G)) rfl (wk G 76 rfl) (wk G 77 rfl) (wk G 78 rfl) (by decide) pd17 rfl rfl (by rw [hml]; rfl) (Nat.le_of_ble_eq_true rfl) rfl rfl (by decide) (by decide) (allS (Nat.le_trans O0.2.1 (Nat.le_trans K679.1 (Nat.le_of_eq g673))) all0) (hb hby at_154) (k_n (pc' := 157) rfl ?_)
          rintro  h699 f701 K700
          refine go_astore (pc' := 159) (ls' := #[.val (.int x0), .val (.int x1), .val (.int x2), .val (.int x3), .val (.int x4), .val (.int x5), .val (.int (1 : Int32)), .val (.int (1 : Int32)), .val (.int (((XT.ushr x0 (2 : Int32)) &&& (2147483647 : Int32)) % (3 : Int32))), .val (.ref r472), .val (.ref a475), .val (.ref a484), .val (.ref r503), .val (.ref a507), .val (.ref a655), .val (.ref a672)]) (hb hby at_157) rfl rfl rfl ?_
          refine go_aload (pc' := 161) (hb hby at_159) rfl rfl rfl ?_
          refine go_old (fun O702 => ?_)
          have E703 := (E675.keep K700)
          refine callV0 (cells' := 19) (slots' := 140) (Wd := 0) (argsL := []) (rest := []) (pay_of (a0 := a0) (c_ismapR l G a672 a507 h699 O702 f701) (wk G 147 rfl) (wk G 75 rfl) (by decide) (by decide)) E703 (wk G 143 rfl) (wk G 144 rfl) (wk G 146 rfl) (wk G 146 rfl) (wk G 145 rfl) (by decide) pd18 rfl rfl (by rw [hml]; rfl) (Nat.le_of_ble_eq_true rfl) rfl rfl (by decide) (by decide) all0 (fun _ _ => sf0) (hb hby at_161) (k_v (pc' := 164) rfl ?_)
          rintro _ h704 ⟨rfl, rfl⟩ K705
          refine go_iload (pc' := 166) (hb hby at_164) rfl rfl ?_
          refine go_icF (pc' := 169) (hb hby at_166) rfl (by decide) ?_
          refine go_iconst (pc' := 170) (v := 1) (hb hby at_169) rfl rfl ?_
          refine go_goto (pc' := 174) (hb hby at_170) (by decide) rfl ?_
          have K706 : Keep h0 h699 [] := (K688.trans K700 (allS (Or.inr (Nat.le_trans K679.1 (Nat.le_of_eq g673))) all0))
          refine go_ireturn hret hlk rfl (by simp) (hb hby at_174) (by decide) (by decide) ⟨_, rfl, rfl⟩ K706
        · refine go_icF (pc' := 115) (hb hby at_112) rfl (XT.ii_lt_f c653) ?_
          refine go_aload (pc' := 117) (hb hby at_115) rfl rfl rfl ?_
          refine go_aload (pc' := 119) (hb hby at_117) rfl rfl rfl ?_
          have E707 := (E640.keep K644)
          have K708 : Keep h0 h506 [] := (K515.ext X509)
          have K709 : Keep h0 h520 [] := (K708.trans K521 (allS (Or.inr (Nat.le_trans K515.1 (Nat.le_of_eq g508))) all0))
          have K710 : Keep h506 h520 [a507] := ((Keep.refl h506 [a507]).trans K521 (allS (Or.inl (by simp)) all0))
          have K711 : Keep h501 h506 [] := ((Keep.refl h501 []).ext X509)
          have K712 : Keep h501 h520 [] := (K711.trans K521 (allS (Or.inr (Nat.le_of_eq g508)) all0))
          have K713 : Keep h501 h643 [] := (K712.trans K644 (allS (Or.inr (Nat.le_of_eq g508)) all0))
          have E714 := (f505.exa.keep K713)
          refine go_old (fun O715 => ?_)
          refine callV0 (cells' := 7) (slots' := 24) (Wd := 0) (argsL := [(.ref r503)]) (rest := []) (pay_of (a0 := a0) (c_addb l G a507 r503 r645 r646 a484 h643 O715 E707 (Nat.le_trans O0.2.1 (Nat.le_trans K515.1 (Nat.le_of_eq g508))) f648 (Nat.le_trans O0.2.1 (Nat.le_trans K709.1 f647)) (Nat.ne_of_lt (Nat.lt_of_lt_of_le (Nat.lt_of_lt_of_le E510.lt K710.1) f647)) f649 f650 E714 f651 f652) (wk G 175 rfl) (wk G 154 rfl) (by decide) (by decide)) E707 (wk G 171 rfl) (wk G 172 rfl) (wk G 174 rfl) (wk G 174 rfl) (wk G 173 rfl) (by decide) pd19 rfl rfl (by rw [hml]; rfl) (Nat.le_of_ble_eq_true rfl) rfl rfl (by decide) (by decide) (allS (Nat.le_trans O0.2.1 (Nat.le_trans K515.1 (Nat.le_of_eq g508))) (allS (Nat.le_trans O0.2.1 (Nat.le_trans K709.1 f647)) all0)) (fun _ hal => (sfS (Safe.exa hal E707 (by decide) (by decide)) (sfS (Safe.arv hal f651 (by simp)) sf0))) (hb hby at_119) (k_v (pc' := 122) rfl ?_)
          rintro _ h716 rfl K717
          refine go_pop (pc' := 123) (hb hby at_122) rfl rfl ?_
          refine go_newO (pc' := 126) (cells' := 8) (slots' := 27) (wk G 52 rfl) (wk G 53 rfl) (wk G 54 rfl) (hb hby at_123) rfl rfl rfl (by decide) (by decide) (fun h718 a719 g720 X721 E722 D723 U724 => ?_)
          refine go_dup (pc' := 127) (hb hby at_126) rfl rfl ?_
          refine go_aload (pc' := 129) (hb hby at_127) rfl rfl rfl ?_
          refine go_iload (pc' := 131) (hb hby at_129) rfl rfl ?_
          refine go_iload (pc' := 133) (hb hby at_131) rfl rfl ?_
          have K725 : Keep h0 h643 [] := (K709.trans K644 (allS (Or.inr (Nat.le_trans K515.1 (Nat.le_of_eq g508))) all0))
          have K726 : Keep h0 h716 [] := (K725.trans K717 (allS (Or.inr (Nat.le_trans K515.1 (Nat.le_of_eq g508))) (allS (Or.inr (Nat.le_trans K709.1 f647)) all0)))
          have E727 := (((E641.keep K644).keep K717).ext X721)
          have F728 := D723 (Or.inr (wk G 68 rfl)) (ty := (.object "java/lang/String")) (by decide)
          have F729 := D723 (Or.inr (wk G 70 rfl)) (ty := .int) (by decide)
          have F730 := D723 (Or.inr (wk G 72 rfl)) (ty := .int) (by decide)
          refine go_old (fun O731 => ?_)
          refine callIW0 rfl (cells' := 10) (slots' := 47) (Wd := 1) (argsL := [(.ref a484), (.int x4), (.int x5)]) (rest := [(.ref a719)]) (payW_of (a0 := a0) (c_plinit l G a719 a484 x4 x5 h718 O731 E722 (Nat.le_trans O0.2.1 (Nat.le_trans K726.1 (Nat.le_of_eq g720))) E727 F728 F729 F730) (wk G 57 rfl) (wk G 54 rfl) (by decide) (by decide) (ew1 G)) rfl (wk G 55 rfl) (wk G 56 rfl) (wk G 57 rfl) (by decide) pd16 rfl rfl (by rw [hml]; rfl) (Nat.le_of_ble_eq_true rfl) rfl rfl (by decide) (by decide) (allS (Nat.le_trans O0.2.1 (Nat.le_trans K726.1 (Nat.le_of_eq g720))) all0) (hb hby at_133) (k_n (pc' := 136) rfl ?_)
          rintro  h732 - K733
          refine go_astore (pc' := 138) (ls' := #[.val (.int x0), .val (.int x1), .val (.int x2), .val (.int x3), .val (.int x4), .val (.int x5), .val (.int (1 : Int32)), .val (.int (1 : Int32)), .val (.int (((XT.ushr x0 (2 : Int32)) &&& (2147483647 : Int32)) % (3 : Int32))), .val (.ref r472), .val (.ref a475), .val (.ref a484), .val (.ref r503), .val (.ref a507), .val (.ref a719), .unset]) (hb hby at_136) rfl rfl rfl ?_
          refine go_newO (pc' := 141) (cells' := 11) (slots' := 56) (wk G 73 rfl) (wk G 74 rfl) (wk G 75 rfl) (hb hby at_138) rfl rfl rfl (by decide) (by decide) (fun h734 a735 g736 X737 E738 D739 U740 => ?_)
          refine go_dup (pc' := 142) (hb hby at_141) rfl rfl ?_
          refine go_aload (pc' := 144) (hb hby at_142) rfl rfl rfl ?_
          refine go_aload (pc' := 146) (hb hby at_144) rfl rfl rfl ?_
          refine go_aload (pc' := 148) (hb hby at_146) rfl rfl rfl ?_
          refine go_iload (pc' := 150) (hb hby at_148) rfl rfl ?_
          refine go_aload (pc' := 152) (hb hby at_150) rfl rfl rfl ?_
          refine go_aload (pc' := 154) (hb hby at_152) rfl rfl rfl ?_
          have K741 : Keep h0 h718 [] := (K726.ext X721)
          have K742 : Keep h0 h732 [] := (K741.trans K733 (allS (Or.inr (Nat.le_trans K726.1 (Nat.le_of_eq g720))) all0))
          have E743 := ((E727.keep K733).ext X737)
          have E744 := ((((E714.keep K717).ext X721).keep K733).ext X737)
          have K745 : Keep h0 h734 [] := (K742.ext X737)
          have E746 := (f473.keep K745)
          have E747 := ((E722.keep K733).ext X737)
          have F748 := D739 (Or.inr (wk G 84 rfl)) (ty := (.object "java/lang/String")) (by decide)
          have F749 := D739 (Or.inr (wk G 87 rfl)) (ty := (.object "java/lang/String")) (by decide)
          have F750 := D739 (Or.inr (wk G 92 rfl)) (ty := (.object "com/example/hew/hew/Message$Field$Kind")) (by decide)
          have F751 := D739 (Or.inr (wk G 94 rfl)) (ty := .boolean) (by decide)
          have F752 := D739 (Or.inr (wk G 96 rfl)) (ty := (.object "java/util/List")) (by decide)
          have F753 := D739 (Or.inr (wk G 137 rfl)) (ty := (.object "java/util/List")) (by decide)
          have F754 := D739 (Or.inr (wk G 142 rfl)) (ty := (.object "com/example/hew/hew/Place")) (by decide)
          refine go_old (fun O755 => ?_)
          refine callIW0 rfl (cells' := 19) (slots' := 140) (Wd := 1) (argsL := [(.ref a484), (.ref r503), (.ref r472), (.int (1 : Int32)), (.ref a507), (.ref a719)]) (rest := [(.ref a735)]) (payW_of (a0 := a0) (c_fdinitR l G a735 a484 r503 r472 (1 : Int32) a507 a719 h734 O755 E738 (Nat.le_trans O0.2.1 (Nat.le_trans K742.1 (Nat.le_of_eq g736))) E743 E744 E746 E747 (⟨rfl, by decide⟩) F748 F749 F750 F751 F752 F753 F754) (wk G 78 rfl) (wk G 75 rfl) (by decide) (by decide) (ew1 G)) rfl (wk G 76 rfl) (wk G 77 rfl) (wk G 78 rfl) (by decide) pd17 rfl rfl (by rw [hml]; rfl) (Nat.le_of_ble_eq_true rfl) rfl rfl (by decide) (by decide) (allS (Nat.le_trans O0.2.1 (Nat.le_trans K742.1 (Nat.le_of_eq g736))) all0) (hb hby at_154) (k_n (pc' := 157) rfl ?_)
          rintro  h756 f758 K757
          refine go_astore (pc' := 159) (ls' := #[.val (.int x0), .val (.int x1), .val (.int x2), .val (.int x3), .val (.int x4), .val (.int x5), .val (.int (1 : Int32)), .val (.int (1 : Int32)), .val (.int (((XT.ushr x0 (2 : Int32)) &&& (2147483647 : Int32)) % (3 : Int32))), .val (.ref r472), .val (.ref a475), .val (.ref a484), .val (.ref r503), .val (.ref a507), .val (.ref a719), .val (.ref a735)]) (hb hby at_157) rfl rfl rfl ?_
          refine go_aload (pc' := 161) (hb hby at_159) rfl rfl rfl ?_
          refine go_old (fun O759 => ?_)
          have E760 := (E738.keep K757)
          refine callV0 (cells' := 19) (slots' := 140) (Wd := 0) (argsL := []) (rest := []) (pay_of (a0 := a0) (c_ismapR l G a735 a507 h756 O759 f758) (wk G 147 rfl) (wk G 75 rfl) (by decide) (by decide)) E760 (wk G 143 rfl) (wk G 144 rfl) (wk G 146 rfl) (wk G 146 rfl) (wk G 145 rfl) (by decide) pd18 rfl rfl (by rw [hml]; rfl) (Nat.le_of_ble_eq_true rfl) rfl rfl (by decide) (by decide) all0 (fun _ _ => sf0) (hb hby at_161) (k_v (pc' := 164) rfl ?_)
          rintro _ h761 ⟨rfl, rfl⟩ K762
          refine go_iload (pc' := 166) (hb hby at_164) rfl rfl ?_
          refine go_icF (pc' := 169) (hb hby at_166) rfl (by decide) ?_
          refine go_iconst (pc' := 170) (v := 1) (hb hby at_169) rfl rfl ?_
          refine go_goto (pc' := 174) (hb hby at_170) (by decide) rfl ?_
          have K763 : Keep h0 h756 [] := (K745.trans K757 (allS (Or.inr (Nat.le_trans K742.1 (Nat.le_of_eq g736))) all0))
          refine go_ireturn hret hlk rfl (by simp) (hb hby at_174) (by decide) (by decide) ⟨_, rfl, rfl⟩ K763
set_option maxRecDepth 65536 in
set_option maxHeartbeats 40000000 in
theorem comes_1 {Post : Tables → Env → Array Value → State → Outcome → State → Prop} (hpost : ∀ tb e args s v u, (limb_1_1.after args s (.returned v) u = true ∧ limb_1_2.after args s (.returned v) u = true ∧ True) → ReturnedEndW s (.returned v) u (Jvm.fieldLocs frame_1_writes args s ++ Jvm.arrayLocs frame_1_arrays args s ++ Jvm.staticLocs frame_1_statics s) 40 5312 → Post tb e args s (.returned v) u) :
    ArmFor flags0 classFile x code maxLocals ret World_1 tables_1 room_1 Calls_1 rest_1 Pre_1 Post := by
  intro l hfl _ _ p e ha hc hk s m args below hf hA hF happ hP
  obtain ⟨hcalls, hrest, hpre⟩ := hP
  obtain ⟨-, -, -, hnamed, -, -, -, hat⟩ := (Spec.applies_iff hf).mp happ
  obtain ⟨hg, hn⟩ := and_e (Cond.before_iff.mp (show (Jvm.Cond.and given_1 narrow_1).before args s = true from hpre))
  obtain ⟨h1, h2⟩ := and_e hg
  obtain ⟨w0, w1, w2, w3, w4, w5, rfl⟩ : ∃ w0 w1 w2 w3 w4 w5 : Value, args = #[w0, w1, w2, w3, w4, w5] := by
    have hs : args.size = 6 := by simpa [Cond.value, given_1] using h1
    obtain ⟨L⟩ := args
    match L, hs with
    | [w0, w1, w2, w3, w4, w5], _ => exact ⟨w0, w1, w2, w3, w4, w5, rfl⟩
  have hw := fun d (hd : d ∈ tables_1) => atoms_spec (ws := Jvm.Cond.code x code maxLocals ret :: tables_1) hat d (List.mem_cons_of_mem _ hd)
  obtain ⟨hsets, hown0⟩ := atoms_of _ (rest_1_c_eq ▸ (show rest_1_c.before _ s = true from hrest))
  have hfit : Fit s := fun {y c} hc i hi => by
    obtain ⟨ha, rfl⟩ := Array.getElem?_eq_some_iff.mp hc
    have q := List.all_eq_true.mp ((Array.all_eq_true_iff_forall_mem.mp hF) _ (Array.getElem_mem ha)) i (List.mem_range.mpr hi)
    simpa [Array.getElem?_eq_getElem hi] using q
  obtain ⟨q0, h2⟩ := and_e h2
  obtain ⟨i0, e0⟩ := is_v q0
  obtain rfl : w0 = (.int i0) := Option.some.inj e0
  obtain ⟨q1, h2⟩ := and_e h2
  obtain ⟨i1, e1⟩ := is_v q1
  obtain rfl : w1 = (.int i1) := Option.some.inj e1
  obtain ⟨q2, h2⟩ := and_e h2
  obtain ⟨i2, e2⟩ := is_v q2
  obtain rfl : w2 = (.int i2) := Option.some.inj e2
  obtain ⟨q3, h2⟩ := and_e h2
  obtain ⟨i3, e3⟩ := is_v q3
  obtain rfl : w3 = (.int i3) := Option.some.inj e3
  obtain ⟨q4, h2⟩ := and_e h2
  obtain ⟨i4, e4⟩ := is_v q4
  obtain rfl : w4 = (.int i4) := Option.some.inj e4
  have q5 := h2
  obtain ⟨i5, e5⟩ := is_v q5
  obtain rfl : w5 = (.int i5) := Option.some.inj e5
  have hew : EW s #[(.int i0), (.int i1), (.int i2), (.int i3), (.int i4), (.int i5)] EL1 := EW.nil
  have G : GH s #[(.int i0), (.int i1), (.int i2), (.int i3), (.int i4), (.int i5)] := ⟨hw, hsets, hew, hn, hfit⟩
  obtain ⟨n, o, h1, h2, h3, v, L, rfl, ⟨⟨_, rfl, hv⟩, N, -⟩, hC, -⟩ := c_law l G i0 i1 i2 i3 i4 i5 s.heap (Old.start s) p e ha hc hk s m _ below hf ((Spec.applies_iff_loose hf).mp happ).1 ⟨rfl, State.Warmed39.refl s, rfl, (fun _ => chv_nil)⟩ trivial
  subst hv
  have hq := (hC rfl).2
  refine ⟨n, _, h1, h2, h3, hpost _ _ _ _ _ _ ⟨Cond.after_iff.mpr rfl, Cond.after_iff.mpr (eq_i res_at (Term.int_eval (1)) rfl), trivial⟩ ⟨hq.1, hq.2.1, hq.2.2.1, (hq.2.2.2.sift fun y hy => Or.inr (N y hy)).mono (by decide) (by decide)⟩⟩
theorem main_1_1 : Claimed_1_1 := comes_1 fun _ _ _ _ _ _ h hF => ⟨h.1, hF⟩
theorem main_1_2 : Claimed_1_2 := comes_1 fun _ _ _ _ _ _ h hF => ⟨h.2.1, hF⟩
end Jvm.Pilot.@@N@@
namespace Jvm.Pilot.@@N@@
open Jvm Jvm.ClassFile Sem Op Lib Jvm.Free Jvm.Stand Jvm.Pilot.@@N@@.Jvm.D
/-! MADE BY PROGRAM (witnessworld.py) out of the Statement's table words and the real class files: 40 classes; the members and pool entries that the words name. The judged class is class 1, her method 2. -/
namespace start1
open Jvm.ClassFile
def u (s : String) : CpInfo := .utf8 (stringToUtf16 s)
/-- a pool by its gaps: so many unusable entries, then the entry; so many at the end -/
def gap : Nat → List CpInfo → List CpInfo
  | 0, r => r
  | n + 1, r => .unusable :: gap n r
def poolList (es : List (Nat × CpInfo)) (last : Nat) : List CpInfo := es.foldr (fun e r => gap e.1 (e.2 :: r)) (gap last [])
def pool (es : List (Nat × CpInfo)) (last : Nat) : Array CpInfo := ⟨poolList es last⟩
def fileOf (pool : Array CpInfo) (this : Nat) (attrs : Array Attribute := #[]) (ms : Array MethodInfo := #[]) (fl : Nat := 33) (sup : Nat := 0) (ifs : Array Nat := #[]) (fds : Array FieldInfo := #[]) : ClassFile where
  minorVersion := 0
  majorVersion := 65
  constantPool := pool
  accessFlags := fl
  thisClass := this
  superClass := sup
  interfaces := ifs
  fields := fds
  methods := ms
  attributes := attrs
def plain (name : String) (sup : Option ClassId) : Class where
  name := name
  kind := .ordinary
  loader := none
  accessFlags := 33
  super := sup
  interfaces := #[]
  cf := none
  fields := #[]
  methods := #[]
  instanceTypes := #[]
  staticTypes := #[]
  resolved := #[]
  callSites := []
  init := .initialized
  statics := none
  mirror := none

def pool0 : Array CpInfo := pool [(5, u "<init>"), (0, u "()V"), (1, .class_ 10), (1, u "java/lang/Object")] 113

def k0c0 : Code := { maxStack := 0, maxLocals := 1, code := object_method_1_code, exceptionTable := #[], attributes := #[] }
def k0m0 : Method := { name := "<init>", desc := "()V", sig := { parameters := [], returnType := none }, accessFlags := 1, code := some k0c0 }
/-- java/lang/Object -/
def k0 : Class := { plain "java/lang/Object" none with
  accessFlags := 33
  interfaces := #[]
  cf := some (fileOf pool0 8 #[] #[{ accessFlags := 1, nameIndex := 5, descriptorIndex := 6, attributes := #[] }] 33 0 #[] #[])
  fields := #[]
  methods := #[k0m0]
  instanceTypes := #[]
  staticTypes := #[]
  resolved := Array.replicate 124 none
  statics := none }

def pool1 : Array CpInfo := pool [(2, .class_ 4), (0, .nameAndType 5 6), (0, u "java/lang/Object"), (0, u "<init>"), (0, u "()V"), (0, .integer 2147483647), (0, .fieldref 9 10), (0, .class_ 11), (0, .nameAndType 12 13), (0, u "com/example/hew/hew/Message$Field$Kind"), (0, u "SCALAR"), (0, u "Lcom/example/hew/hew/Message$Field$Kind;"), (0, .fieldref 9 15), (0, .nameAndType 16 13), (0, u "ENUM"), (0, .fieldref 9 18), (0, .nameAndType 19 13), (0, u "MESSAGE"), (0, .methodref 21 22), (0, .class_ 23), (0, .nameAndType 24 25), (0, u "com/example/hew/hew/FieldIsMapPinLaw"), (0, u "kindOf"), (0, u "(I)Lcom/example/hew/hew/Message$Field$Kind;"), (0, .class_ 27), (0, u "java/lang/String"), (0, .methodref 26 29), (0, .nameAndType 5 30), (0, u "([C)V"), (0, .methodref 26 32), (0, .nameAndType 33 34), (0, u "valueOf"), (0, u "(C)Ljava/lang/String;"), (0, .class_ 36), (0, u "java/util/ArrayList"), (0, .methodref 35 3), (0, .methodref 35 39), (0, .nameAndType 40 41), (0, u "add"), (0, u "(Ljava/lang/Object;)Z"), (0, .class_ 43), (0, u "com/example/hew/hew/Place"), (0, .methodref 42 45), (0, .nameAndType 5 46), (0, u "(Ljava/lang/String;II)V"), (0, .class_ 48), (0, u "com/example/hew/hew/Message$Field"), (0, .methodref 47 50), (0, .nameAndType 5 51), (0, u "(Ljava/lang/String;Ljava/lang/String;Lcom/example/hew/hew/Message$Field$Kind;ZLjava/util/List;Lcom/example/hew/hew/Place;)V"), (0, .methodref 47 53), (0, .nameAndType 54 55), (0, u "isMap"), (0, u "()Z"), (3, u "law"), (0, u "(IIIIII)Z")] 9

def k1m0 : Method := { name := "<init>", desc := "()V", sig := { parameters := [], returnType := none }, accessFlags := 1, code := none }
def k1c1 : Code := { maxStack := 2, maxLocals := 2, code := method_2_code, exceptionTable := #[], attributes := #[] }
def k1m1 : Method := { name := "kindOf", desc := "(I)Lcom/example/hew/hew/Message$Field$Kind;", sig := { parameters := [.int], returnType := some (.object "com/example/hew/hew/Message$Field$Kind") }, accessFlags := 10, code := some k1c1 }
def k1c2 : Code := { maxStack := 8, maxLocals := 16, code := code, exceptionTable := #[], attributes := #[] }
def k1m2 : Method := { name := "law", desc := "(IIIIII)Z", sig := { parameters := [.int, .int, .int, .int, .int, .int], returnType := some .boolean }, accessFlags := 9, code := some k1c2 }
/-- com/example/hew/hew/FieldIsMapPinLaw -/
def k1 : Class := { plain "com/example/hew/hew/FieldIsMapPinLaw" (some 0) with
  accessFlags := 49
  interfaces := #[]
  cf := some (fileOf pool1 21 #[] #[{ accessFlags := 1, nameIndex := 5, descriptorIndex := 6, attributes := #[] }, { accessFlags := 10, nameIndex := 24, descriptorIndex := 25, attributes := #[] }, { accessFlags := 9, nameIndex := 59, descriptorIndex := 60, attributes := #[] }] 49 2 #[] #[])
  fields := #[]
  methods := #[k1m0, k1m1, k1m2]
  instanceTypes := #[]
  staticTypes := #[]
  resolved := Array.replicate 70 none
  statics := none }

def pool2 : Array CpInfo := pool [(1, .class_ 2), (0, u "java/lang/constant/Constable"), (0, .class_ 4), (0, u "java/lang/Object")] 6

/-- java/lang/constant/Constable -/
def k2 : Class := { plain "java/lang/constant/Constable" (some 0) with
  accessFlags := 1537
  interfaces := #[]
  cf := some (fileOf pool2 1 #[] #[] 1537 3 #[] #[])
  fields := #[]
  methods := #[]
  instanceTypes := #[]
  staticTypes := #[]
  resolved := Array.replicate 11 none
  statics := none }

def pool3 : Array CpInfo := pool [(1, .class_ 2), (0, u "java/lang/Comparable"), (0, .class_ 4), (0, u "java/lang/Object")] 7

/-- java/lang/Comparable -/
def k3 : Class := { plain "java/lang/Comparable" (some 0) with
  accessFlags := 1537
  interfaces := #[]
  cf := some (fileOf pool3 1 #[] #[] 1537 3 #[] #[])
  fields := #[]
  methods := #[]
  instanceTypes := #[]
  staticTypes := #[]
  resolved := Array.replicate 12 none
  statics := none }

def pool4 : Array CpInfo := pool [(1, .class_ 2), (0, u "java/io/Serializable"), (0, .class_ 4), (0, u "java/lang/Object")] 2

/-- java/io/Serializable -/
def k4 : Class := { plain "java/io/Serializable" (some 0) with
  accessFlags := 1537
  interfaces := #[]
  cf := some (fileOf pool4 1 #[] #[] 1537 3 #[] #[])
  fields := #[]
  methods := #[]
  instanceTypes := #[]
  staticTypes := #[]
  resolved := Array.replicate 7 none
  statics := none }

def pool5 : Array CpInfo := pool [(2, .class_ 4), (1, u "java/lang/Enum"), (0, u "name"), (0, u "Ljava/lang/String;"), (2, u "ordinal"), (0, u "I"), (1, .class_ 14), (1, u "java/lang/Object"), (4, u "hash"), (86, .class_ 108), (1, u "java/lang/Enum$EnumDesc"), (2, .class_ 112), (0, u "java/lang/constant/Constable"), (0, .class_ 114), (0, u "java/lang/Comparable"), (0, .class_ 116), (0, u "java/io/Serializable")] 87

/-- java/lang/Enum -/
def k5 : Class := { plain "java/lang/Enum" (some 0) with
  accessFlags := 1057
  interfaces := #[2, 3, 4]
  cf := some (fileOf pool5 2 #[.nestMembers #[106]] #[] 1057 12 #[111, 113, 115] #[{ accessFlags := 18, nameIndex := 5, descriptorIndex := 6, attributes := #[] }, { accessFlags := 18, nameIndex := 9, descriptorIndex := 10, attributes := #[] }, { accessFlags := 2, nameIndex := 19, descriptorIndex := 10, attributes := #[] }])
  fields := #[{ name := "name", type := (.object "java/lang/String"), accessFlags := 18, slot := 0, constantValue := 0 }, { name := "ordinal", type := .int, accessFlags := 18, slot := 1, constantValue := 0 }, { name := "hash", type := .int, accessFlags := 2, slot := 2, constantValue := 0 }]
  methods := #[]
  instanceTypes := #[(.object "java/lang/String"), .int, .int]
  staticTypes := #[]
  resolved := Array.replicate 204 none
  statics := none }

def pool6 : Array CpInfo := pool [(1, .class_ 2), (0, u "com/example/hew/hew/Message$Field$Kind"), (2, u "SCALAR"), (0, u "Lcom/example/hew/hew/Message$Field$Kind;"), (2, u "ENUM"), (2, u "MESSAGE"), (2, u "$VALUES"), (0, u "[Lcom/example/hew/hew/Message$Field$Kind;"), (6, .class_ 25), (1, u "java/lang/Enum"), (26, .class_ 53), (0, u "com/example/hew/hew/Message")] 5

/-- com/example/hew/hew/Message$Field$Kind -/
def k6 : Class := { plain "com/example/hew/hew/Message$Field$Kind" (some 5) with
  accessFlags := 16433
  interfaces := #[]
  cf := some (fileOf pool6 1 #[.nestHost 52] #[] 16433 23 #[] #[{ accessFlags := 16409, nameIndex := 5, descriptorIndex := 6, attributes := #[] }, { accessFlags := 16409, nameIndex := 9, descriptorIndex := 6, attributes := #[] }, { accessFlags := 16409, nameIndex := 12, descriptorIndex := 6, attributes := #[] }, { accessFlags := 4122, nameIndex := 15, descriptorIndex := 16, attributes := #[] }])
  fields := #[{ name := "SCALAR", type := (.object "com/example/hew/hew/Message$Field$Kind"), accessFlags := 16409, slot := 0, constantValue := 0 }, { name := "ENUM", type := (.object "com/example/hew/hew/Message$Field$Kind"), accessFlags := 16409, slot := 1, constantValue := 0 }, { name := "MESSAGE", type := (.object "com/example/hew/hew/Message$Field$Kind"), accessFlags := 16409, slot := 2, constantValue := 0 }, { name := "$VALUES", type := (.array (.object "com/example/hew/hew/Message$Field$Kind")), accessFlags := 4122, slot := 3, constantValue := 0 }]
  methods := #[]
  instanceTypes := #[(.object "java/lang/String"), .int, .int]
  staticTypes := #[(.object "com/example/hew/hew/Message$Field$Kind"), (.object "com/example/hew/hew/Message$Field$Kind"), (.object "com/example/hew/hew/Message$Field$Kind"), (.array (.object "com/example/hew/hew/Message$Field$Kind"))]
  resolved := Array.replicate 59 none
  statics := some 0 }

def pool7 : Array CpInfo := pool [(2, .class_ 4), (1, u "java/lang/CharSequence"), (42, .class_ 48), (0, u "java/lang/CharSequence$1CodePointIterator"), (10, .class_ 60), (0, u "java/lang/CharSequence$1CharIterator"), (5, .class_ 67), (0, u "java/lang/Object")] 63

/-- java/lang/CharSequence -/
def k7 : Class := { plain "java/lang/CharSequence" (some 0) with
  accessFlags := 1537
  interfaces := #[]
  cf := some (fileOf pool7 2 #[.nestMembers #[47, 59]] #[] 1537 66 #[] #[])
  fields := #[]
  methods := #[]
  instanceTypes := #[]
  staticTypes := #[]
  resolved := Array.replicate 131 none
  statics := none }

def pool8 : Array CpInfo := pool [(1, .class_ 2), (0, u "java/lang/constant/ConstantDesc"), (0, .class_ 4), (0, u "java/lang/Object")] 32

/-- java/lang/constant/ConstantDesc -/
def k8 : Class := { plain "java/lang/constant/ConstantDesc" (some 0) with
  accessFlags := 1537
  interfaces := #[]
  cf := some (fileOf pool8 1 #[] #[] 1537 3 #[] #[])
  fields := #[]
  methods := #[]
  instanceTypes := #[]
  staticTypes := #[]
  resolved := Array.replicate 37 none
  statics := none }

def pool9 : Array CpInfo := pool [(1, .methodref 2 3), (0, .class_ 4), (0, .nameAndType 5 6), (0, u "java/lang/Object"), (0, u "<init>"), (0, u "()V"), (2, .fieldref 10 11), (0, .class_ 12), (0, .nameAndType 13 14), (0, u "java/lang/String"), (0, u "value"), (0, u "[B"), (0, .fieldref 10 16), (0, .nameAndType 17 18), (0, u "coder"), (0, u "B"), (2, u "hash"), (0, u "I"), (2, u "hashIsZero"), (0, u "Z"), (0, .methodref 10 28), (0, .nameAndType 5 29), (0, u "([CIILjava/lang/Void;)V"), (8, .fieldref 10 39), (0, .nameAndType 40 26), (0, u "COMPACT_STRINGS"), (1, .class_ 44), (1, u "java/lang/StringUTF16"), (0, u "compress"), (1, .methodref 42 48), (0, .nameAndType 49 50), (0, u "coderFromArrayLen"), (0, u "([BI)B"), (2, u "toBytes"), (53, .class_ 109), (1, u "java/lang/StringLatin1"), (67, .methodref 42 178), (0, .nameAndType 45 179), (0, u "([CII)[B"), (29, .methodref 10 210), (0, .nameAndType 5 211), (0, u "([BB)V"), (157, u "(C)Z"), (205, .class_ 576), (0, u "java/lang/CharSequence"), (22, u "CASE_INSENSITIVE_ORDER"), (0, u "Ljava/util/Comparator;"), (181, u "valueOf"), (0, u "(C)Ljava/lang/String;"), (226, u "([C)V"), (4, .methodref 107 1016), (0, .nameAndType 1017 369), (0, u "canEncode"), (0, .methodref 107 1019), (0, .nameAndType 53 1020), (0, u "(C)[B"), (80, u "serialPersistentFields"), (0, u "[Ljava/io/ObjectStreamField;"), (0, .class_ 1104), (0, u "java/lang/String$CaseInsensitiveComparator"), (1, .class_ 1107), (0, u "java/io/Serializable"), (0, .class_ 1109), (0, u "java/lang/Comparable"), (0, .class_ 1111), (0, u "java/lang/constant/Constable"), (0, .class_ 1113), (0, u "java/lang/constant/ConstantDesc"), (2, u "serialVersionUID"), (0, u "J"), (3, u "REPL"), (0, u "C"), (2, u "LATIN1"), (1, u "UTF16")] 323

def k9m0 : Method := { name := "<init>", desc := "()V", sig := { parameters := [], returnType := none }, accessFlags := 1, code := none }
def k9c1 : Code := { maxStack := 5, maxLocals := 2, code := jdk_42_method_3_code, exceptionTable := #[], attributes := #[] }
def k9m1 : Method := { name := "<init>", desc := "([C)V", sig := { parameters := [(.array .char)], returnType := none }, accessFlags := 1, code := some k9c1 }
def k9c2 : Code := { maxStack := 4, maxLocals := 1, code := jdk_42_method_139_code, exceptionTable := #[], attributes := #[] }
def k9m2 : Method := { name := "valueOf", desc := "(C)Ljava/lang/String;", sig := { parameters := [.char], returnType := some (.object "java/lang/String") }, accessFlags := 9, code := some k9c2 }
def k9c3 : Code := { maxStack := 4, maxLocals := 6, code := jdk_42_method_149_code, exceptionTable := #[], attributes := #[] }
def k9m3 : Method := { name := "<init>", desc := "([CIILjava/lang/Void;)V", sig := { parameters := [(.array .char), .int, .int, (.object "java/lang/Void")], returnType := none }, accessFlags := 2, code := some k9c3 }
def k9c4 : Code := { maxStack := 2, maxLocals := 3, code := jdk_42_method_151_code, exceptionTable := #[], attributes := #[] }
def k9m4 : Method := { name := "<init>", desc := "([BB)V", sig := { parameters := [(.array .byte), .byte], returnType := none }, accessFlags := 0, code := some k9c4 }
/-- java/lang/String -/
def k9 : Class := { plain "java/lang/String" (some 0) with
  accessFlags := 49
  interfaces := #[4, 3, 7, 2, 8]
  cf := some (fileOf pool9 10 #[.nestMembers #[1103]] #[{ accessFlags := 1, nameIndex := 5, descriptorIndex := 6, attributes := #[] }, { accessFlags := 1, nameIndex := 5, descriptorIndex := 1010, attributes := #[] }, { accessFlags := 9, nameIndex := 782, descriptorIndex := 783, attributes := #[] }, { accessFlags := 2, nameIndex := 5, descriptorIndex := 29, attributes := #[] }, { accessFlags := 0, nameIndex := 5, descriptorIndex := 211, attributes := #[] }] 49 2 #[1106, 1108, 575, 1110, 1112] #[{ accessFlags := 18, nameIndex := 13, descriptorIndex := 14, attributes := #[] }, { accessFlags := 18, nameIndex := 17, descriptorIndex := 18, attributes := #[] }, { accessFlags := 2, nameIndex := 21, descriptorIndex := 22, attributes := #[] }, { accessFlags := 2, nameIndex := 25, descriptorIndex := 26, attributes := #[] }, { accessFlags := 26, nameIndex := 1116, descriptorIndex := 1117, attributes := #[] }, { accessFlags := 24, nameIndex := 40, descriptorIndex := 26, attributes := #[] }, { accessFlags := 26, nameIndex := 1101, descriptorIndex := 1102, attributes := #[] }, { accessFlags := 26, nameIndex := 1121, descriptorIndex := 1122, attributes := #[] }, { accessFlags := 25, nameIndex := 599, descriptorIndex := 600, attributes := #[] }, { accessFlags := 24, nameIndex := 1125, descriptorIndex := 18, attributes := #[] }, { accessFlags := 24, nameIndex := 1127, descriptorIndex := 18, attributes := #[] }])
  fields := #[{ name := "value", type := (.array .byte), accessFlags := 18, slot := 0, constantValue := 0 }, { name := "coder", type := .byte, accessFlags := 18, slot := 1, constantValue := 0 }, { name := "hash", type := .int, accessFlags := 2, slot := 2, constantValue := 0 }, { name := "hashIsZero", type := .boolean, accessFlags := 2, slot := 3, constantValue := 0 }, { name := "serialVersionUID", type := .long, accessFlags := 26, slot := 0, constantValue := 0 }, { name := "COMPACT_STRINGS", type := .boolean, accessFlags := 24, slot := 1, constantValue := 0 }, { name := "serialPersistentFields", type := (.array (.object "java/io/ObjectStreamField")), accessFlags := 26, slot := 2, constantValue := 0 }, { name := "REPL", type := .char, accessFlags := 26, slot := 3, constantValue := 0 }, { name := "CASE_INSENSITIVE_ORDER", type := (.object "java/util/Comparator"), accessFlags := 25, slot := 4, constantValue := 0 }, { name := "LATIN1", type := .byte, accessFlags := 24, slot := 5, constantValue := 0 }, { name := "UTF16", type := .byte, accessFlags := 24, slot := 6, constantValue := 0 }]
  methods := #[k9m0, k9m1, k9m2, k9m3, k9m4]
  instanceTypes := #[(.array .byte), .byte, .int, .boolean]
  staticTypes := #[.long, .boolean, (.array (.object "java/io/ObjectStreamField")), .char, (.object "java/util/Comparator"), .byte, .byte]
  resolved := Array.replicate 1451 none
  statics := some 1 }

def pool10 : Array CpInfo := pool [(6, .class_ 8), (1, u "java/lang/Object"), (0, u "<init>"), (0, u "()V"), (1, .class_ 14), (1, u "java/lang/StringUTF16"), (31, u "$assertionsDisabled"), (0, u "Z"), (13, u "HI_BYTE_SHIFT"), (0, u "I"), (2, u "LO_BYTE_SHIFT"), (49, .methodref 12 116), (0, .nameAndType 117 118), (0, u "compress"), (0, u "([CI[BII)I"), (3, u "([CII)[B"), (138, u "coderFromArrayLen"), (0, u "([BI)B"), (106, .class_ 371), (1, u "java/lang/StringUTF16$LinesSpliterator"), (58, u "MAX_LENGTH"), (196, .class_ 628), (0, u "java/lang/StringUTF16$CodePointsSpliterator"), (0, .class_ 630), (0, u "java/lang/StringUTF16$CharsSpliterator")] 4

def k10m0 : Method := { name := "<init>", desc := "()V", sig := { parameters := [], returnType := none }, accessFlags := 0, code := none }
def k10c1 : Code := { maxStack := 2, maxLocals := 2, code := jdk_52_method_15_code, exceptionTable := #[], attributes := #[] }
def k10m1 : Method := { name := "coderFromArrayLen", desc := "([BI)B", sig := { parameters := [(.array .byte), .int], returnType := some .byte }, accessFlags := 8, code := some k10c1 }
def k10c2 : Code := { maxStack := 5, maxLocals := 6, code := jdk_52_method_16_code, exceptionTable := #[], attributes := #[] }
def k10m2 : Method := { name := "compress", desc := "([CII)[B", sig := { parameters := [(.array .char), .int, .int], returnType := some (.array .byte) }, accessFlags := 9, code := some k10c2 }
def k10c3 : Code := { maxStack := 3, maxLocals := 7, code := jdk_52_method_21_code, exceptionTable := #[], attributes := #[] }
def k10m3 : Method := { name := "compress", desc := "([CI[BII)I", sig := { parameters := [(.array .char), .int, (.array .byte), .int, .int], returnType := some .int }, accessFlags := 9, code := some k10c3 }
/-- java/lang/StringUTF16 -/
def k10 : Class := { plain "java/lang/StringUTF16" (some 0) with
  accessFlags := 48
  interfaces := #[]
  cf := some (fileOf pool10 12 #[.nestMembers #[627, 629, 369]] #[{ accessFlags := 0, nameIndex := 9, descriptorIndex := 10, attributes := #[] }, { accessFlags := 8, nameIndex := 261, descriptorIndex := 262, attributes := #[] }, { accessFlags := 9, nameIndex := 117, descriptorIndex := 122, attributes := #[] }, { accessFlags := 9, nameIndex := 117, descriptorIndex := 118, attributes := #[] }] 48 6 #[] #[{ accessFlags := 26, nameIndex := 61, descriptorIndex := 62, attributes := #[] }, { accessFlags := 26, nameIndex := 65, descriptorIndex := 62, attributes := #[] }, { accessFlags := 24, nameIndex := 430, descriptorIndex := 62, attributes := #[] }, { accessFlags := 4120, nameIndex := 46, descriptorIndex := 47, attributes := #[] }])
  fields := #[{ name := "HI_BYTE_SHIFT", type := .int, accessFlags := 26, slot := 0, constantValue := 0 }, { name := "LO_BYTE_SHIFT", type := .int, accessFlags := 26, slot := 1, constantValue := 0 }, { name := "MAX_LENGTH", type := .int, accessFlags := 24, slot := 2, constantValue := 0 }, { name := "$assertionsDisabled", type := .boolean, accessFlags := 4120, slot := 3, constantValue := 0 }]
  methods := #[k10m0, k10m1, k10m2, k10m3]
  instanceTypes := #[]
  staticTypes := #[.int, .int, .int, .boolean]
  resolved := Array.replicate 635 none
  statics := none }

def pool11 : Array CpInfo := pool [(4, .class_ 6), (1, u "java/lang/Object"), (0, u "<init>"), (0, u "()V"), (5, .class_ 16), (1, u "java/lang/StringLatin1"), (73, u "canEncode"), (14, u "(C)Z"), (15, u "$assertionsDisabled"), (0, u "Z"), (98, .class_ 223), (1, u "java/lang/StringLatin1$LinesSpliterator"), (156, u "toBytes"), (1, u "(C)[B"), (7, .class_ 391), (0, u "java/lang/StringLatin1$CharsSpliterator")] 3

def k11m0 : Method := { name := "<init>", desc := "()V", sig := { parameters := [], returnType := none }, accessFlags := 0, code := none }
def k11c1 : Code := { maxStack := 2, maxLocals := 1, code := jdk_43_method_3_code, exceptionTable := #[], attributes := #[] }
def k11m1 : Method := { name := "canEncode", desc := "(C)Z", sig := { parameters := [.char], returnType := some .boolean }, accessFlags := 9, code := some k11c1 }
def k11c2 : Code := { maxStack := 4, maxLocals := 1, code := jdk_43_method_46_code, exceptionTable := #[], attributes := #[] }
def k11m2 : Method := { name := "toBytes", desc := "(C)[B", sig := { parameters := [.char], returnType := some (.array .byte) }, accessFlags := 9, code := some k11c2 }
/-- java/lang/StringLatin1 -/
def k11 : Class := { plain "java/lang/StringLatin1" (some 0) with
  accessFlags := 48
  interfaces := #[]
  cf := some (fileOf pool11 14 #[.nestMembers #[390, 221]] #[{ accessFlags := 0, nameIndex := 7, descriptorIndex := 8, attributes := #[] }, { accessFlags := 9, nameIndex := 90, descriptorIndex := 105, attributes := #[] }, { accessFlags := 9, nameIndex := 380, descriptorIndex := 382, attributes := #[] }] 48 4 #[] #[{ accessFlags := 4120, nameIndex := 121, descriptorIndex := 122, attributes := #[] }])
  fields := #[{ name := "$assertionsDisabled", type := .boolean, accessFlags := 4120, slot := 0, constantValue := 0 }]
  methods := #[k11m0, k11m1, k11m2]
  instanceTypes := #[]
  staticTypes := #[.boolean]
  resolved := Array.replicate 395 none
  statics := none }

def pool12 : Array CpInfo := pool [(1, .methodref 2 3), (0, .class_ 4), (0, .nameAndType 5 6), (0, u "java/lang/Object"), (0, u "<init>"), (0, u "()V"), (0, .string 8), (0, u "file"), (0, .methodref 10 11), (0, .class_ 12), (0, .nameAndType 13 14), (0, u "java/util/Objects"), (0, u "requireNonNull"), (0, u "(Ljava/lang/Object;Ljava/lang/String;)Ljava/lang/Object;"), (0, .class_ 16), (0, u "java/lang/String"), (0, .fieldref 18 19), (0, .class_ 20), (0, .nameAndType 8 21), (0, u "com/example/hew/hew/Place"), (0, u "Ljava/lang/String;"), (0, .fieldref 18 23), (0, .nameAndType 24 25), (0, u "line"), (0, u "I"), (0, .fieldref 18 27), (0, .nameAndType 28 25), (0, u "column"), (2, u "(Ljava/lang/String;II)V"), (38, .class_ 71), (0, u "java/lang/Comparable")] 29

def k12c0 : Code := { maxStack := 3, maxLocals := 4, code := prog_39_method_1_code, exceptionTable := #[], attributes := #[] }
def k12m0 : Method := { name := "<init>", desc := "(Ljava/lang/String;II)V", sig := { parameters := [(.object "java/lang/String"), .int, .int], returnType := none }, accessFlags := 1, code := some k12c0 }
/-- com/example/hew/hew/Place -/
def k12 : Class := { plain "com/example/hew/hew/Place" (some 0) with
  accessFlags := 49
  interfaces := #[3]
  cf := some (fileOf pool12 18 #[] #[{ accessFlags := 1, nameIndex := 5, descriptorIndex := 31, attributes := #[] }] 49 2 #[70] #[{ accessFlags := 18, nameIndex := 8, descriptorIndex := 21, attributes := #[] }, { accessFlags := 18, nameIndex := 24, descriptorIndex := 25, attributes := #[] }, { accessFlags := 18, nameIndex := 28, descriptorIndex := 25, attributes := #[] }])
  fields := #[{ name := "file", type := (.object "java/lang/String"), accessFlags := 18, slot := 0, constantValue := 0 }, { name := "line", type := .int, accessFlags := 18, slot := 1, constantValue := 0 }, { name := "column", type := .int, accessFlags := 18, slot := 2, constantValue := 0 }]
  methods := #[k12m0]
  instanceTypes := #[(.object "java/lang/String"), .int, .int]
  staticTypes := #[]
  resolved := Array.replicate 101 none
  statics := none }

def pool13 : Array CpInfo := pool [(2, .class_ 4), (1, u "java/lang/Object"), (0, u "<init>"), (0, u "()V"), (35, .class_ 44), (1, u "java/util/Objects"), (0, u "requireNonNull"), (0, u "(Ljava/lang/Object;)Ljava/lang/Object;"), (47, u "(Ljava/lang/Object;Ljava/lang/String;)Ljava/lang/Object;")] 89

def k13m0 : Method := { name := "<init>", desc := "()V", sig := { parameters := [], returnType := none }, accessFlags := 2, code := none }
def k13c1 : Code := { maxStack := 2, maxLocals := 1, code := jdk_31_method_10_code, exceptionTable := #[], attributes := #[] }
def k13m1 : Method := { name := "requireNonNull", desc := "(Ljava/lang/Object;)Ljava/lang/Object;", sig := { parameters := [(.object "java/lang/Object")], returnType := some (.object "java/lang/Object") }, accessFlags := 9, code := some k13c1 }
def k13c2 : Code := { maxStack := 3, maxLocals := 2, code := jdk_31_method_11_code, exceptionTable := #[], attributes := #[] }
def k13m2 : Method := { name := "requireNonNull", desc := "(Ljava/lang/Object;Ljava/lang/String;)Ljava/lang/Object;", sig := { parameters := [(.object "java/lang/Object"), (.object "java/lang/String")], returnType := some (.object "java/lang/Object") }, accessFlags := 9, code := some k13c2 }
/-- java/util/Objects -/
def k13 : Class := { plain "java/util/Objects" (some 0) with
  accessFlags := 49
  interfaces := #[]
  cf := some (fileOf pool13 42 #[] #[{ accessFlags := 2, nameIndex := 5, descriptorIndex := 6, attributes := #[] }, { accessFlags := 9, nameIndex := 45, descriptorIndex := 46, attributes := #[] }, { accessFlags := 9, nameIndex := 45, descriptorIndex := 94, attributes := #[] }] 49 2 #[] #[])
  fields := #[]
  methods := #[k13m0, k13m1, k13m2]
  instanceTypes := #[]
  staticTypes := #[]
  resolved := Array.replicate 184 none
  statics := none }

def pool14 : Array CpInfo := pool [(1, .class_ 2), (0, u "com/example/hew/hew/Element"), (0, .class_ 4), (0, u "java/lang/Object")] 7

/-- com/example/hew/hew/Element -/
def k14 : Class := { plain "com/example/hew/hew/Element" (some 0) with
  accessFlags := 1536
  interfaces := #[]
  cf := some (fileOf pool14 1 #[] #[] 1536 3 #[] #[])
  fields := #[]
  methods := #[]
  instanceTypes := #[]
  staticTypes := #[]
  resolved := Array.replicate 12 none
  statics := none }

def pool15 : Array CpInfo := pool [(1, .methodref 2 3), (0, .class_ 4), (0, .nameAndType 5 6), (0, u "java/lang/Object"), (0, u "<init>"), (0, u "()V"), (0, .string 8), (0, u "name"), (0, .methodref 10 11), (0, .class_ 12), (0, .nameAndType 13 14), (0, u "java/util/Objects"), (0, u "requireNonNull"), (0, u "(Ljava/lang/Object;Ljava/lang/String;)Ljava/lang/Object;"), (0, .class_ 16), (0, u "java/lang/String"), (0, .fieldref 18 19), (0, .class_ 20), (0, .nameAndType 8 21), (0, u "com/example/hew/hew/Message$Field"), (0, u "Ljava/lang/String;"), (0, .string 23), (0, u "type"), (0, .fieldref 18 25), (0, .nameAndType 23 21), (0, .string 27), (0, u "kind"), (0, .class_ 29), (0, u "com/example/hew/hew/Message$Field$Kind"), (0, .fieldref 18 31), (0, .nameAndType 27 32), (0, u "Lcom/example/hew/hew/Message$Field$Kind;"), (0, .fieldref 18 34), (0, .nameAndType 35 36), (0, u "repeated"), (0, u "Z"), (0, .fieldref 18 38), (0, .nameAndType 39 40), (0, u "keyAndValue"), (0, u "Ljava/util/List;"), (0, .interfaceMethodref 42 43), (0, .class_ 44), (0, .nameAndType 45 46), (0, u "java/util/List"), (0, u "of"), (0, u "(Ljava/lang/Object;)Ljava/util/List;"), (0, .fieldref 18 48), (0, .nameAndType 49 40), (0, u "elementTypes"), (0, .string 51), (0, u "place"), (0, .class_ 53), (0, u "com/example/hew/hew/Place"), (0, .fieldref 18 55), (0, .nameAndType 51 56), (0, u "Lcom/example/hew/hew/Place;"), (2, u "message"), (0, u "Lcom/example/hew/hew/Message;"), (3, .class_ 66), (1, u "com/example/hew/hew/Message"), (11, u "messageType"), (8, u "isMap"), (0, u "()Z"), (14, .class_ 104), (0, u "com/example/hew/hew/Element"), (2, u "(Ljava/lang/String;Ljava/lang/String;Lcom/example/hew/hew/Message$Field$Kind;ZLjava/util/List;Lcom/example/hew/hew/Place;)V")] 42

def k15c0 : Code := { maxStack := 3, maxLocals := 7, code := prog_28_method_1_code, exceptionTable := #[], attributes := #[] }
def k15m0 : Method := { name := "<init>", desc := "(Ljava/lang/String;Ljava/lang/String;Lcom/example/hew/hew/Message$Field$Kind;ZLjava/util/List;Lcom/example/hew/hew/Place;)V", sig := { parameters := [(.object "java/lang/String"), (.object "java/lang/String"), (.object "com/example/hew/hew/Message$Field$Kind"), .boolean, (.object "java/util/List"), (.object "com/example/hew/hew/Place")], returnType := none }, accessFlags := 0, code := some k15c0 }
def k15c1 : Code := { maxStack := 1, maxLocals := 1, code := prog_28_method_10_code, exceptionTable := #[], attributes := #[] }
def k15m1 : Method := { name := "isMap", desc := "()Z", sig := { parameters := [], returnType := some .boolean }, accessFlags := 1, code := some k15c1 }
/-- com/example/hew/hew/Message$Field -/
def k15 : Class := { plain "com/example/hew/hew/Message$Field" (some 0) with
  accessFlags := 49
  interfaces := #[14]
  cf := some (fileOf pool15 18 #[.nestHost 64] #[{ accessFlags := 0, nameIndex := 5, descriptorIndex := 107, attributes := #[] }, { accessFlags := 1, nameIndex := 87, descriptorIndex := 88, attributes := #[] }] 49 2 #[103] #[{ accessFlags := 2, nameIndex := 59, descriptorIndex := 60, attributes := #[] }, { accessFlags := 18, nameIndex := 8, descriptorIndex := 21, attributes := #[] }, { accessFlags := 18, nameIndex := 23, descriptorIndex := 21, attributes := #[] }, { accessFlags := 18, nameIndex := 27, descriptorIndex := 32, attributes := #[] }, { accessFlags := 18, nameIndex := 35, descriptorIndex := 36, attributes := #[] }, { accessFlags := 18, nameIndex := 39, descriptorIndex := 40, attributes := #[] }, { accessFlags := 18, nameIndex := 49, descriptorIndex := 40, attributes := #[] }, { accessFlags := 18, nameIndex := 51, descriptorIndex := 56, attributes := #[] }, { accessFlags := 2, nameIndex := 78, descriptorIndex := 60, attributes := #[] }])
  fields := #[{ name := "message", type := (.object "com/example/hew/hew/Message"), accessFlags := 2, slot := 0, constantValue := 0 }, { name := "name", type := (.object "java/lang/String"), accessFlags := 18, slot := 1, constantValue := 0 }, { name := "type", type := (.object "java/lang/String"), accessFlags := 18, slot := 2, constantValue := 0 }, { name := "kind", type := (.object "com/example/hew/hew/Message$Field$Kind"), accessFlags := 18, slot := 3, constantValue := 0 }, { name := "repeated", type := .boolean, accessFlags := 18, slot := 4, constantValue := 0 }, { name := "keyAndValue", type := (.object "java/util/List"), accessFlags := 18, slot := 5, constantValue := 0 }, { name := "elementTypes", type := (.object "java/util/List"), accessFlags := 18, slot := 6, constantValue := 0 }, { name := "place", type := (.object "com/example/hew/hew/Place"), accessFlags := 18, slot := 7, constantValue := 0 }, { name := "messageType", type := (.object "com/example/hew/hew/Message"), accessFlags := 2, slot := 8, constantValue := 0 }]
  methods := #[k15m0, k15m1]
  instanceTypes := #[(.object "com/example/hew/hew/Message"), (.object "java/lang/String"), (.object "java/lang/String"), (.object "com/example/hew/hew/Message$Field$Kind"), .boolean, (.object "java/util/List"), (.object "java/util/List"), (.object "com/example/hew/hew/Place"), (.object "com/example/hew/hew/Message")]
  staticTypes := #[]
  resolved := Array.replicate 150 none
  statics := none }

def pool16 : Array CpInfo := pool [(8, .class_ 10), (1, u "java/lang/Iterable"), (24, .class_ 36), (0, u "java/lang/Object")] 25

/-- java/lang/Iterable -/
def k16 : Class := { plain "java/lang/Iterable" (some 0) with
  accessFlags := 1537
  interfaces := #[]
  cf := some (fileOf pool16 8 #[] #[] 1537 35 #[] #[])
  fields := #[]
  methods := #[]
  instanceTypes := #[]
  staticTypes := #[]
  resolved := Array.replicate 62 none
  statics := none }

def pool17 : Array CpInfo := pool [(10, .class_ 12), (1, u "java/util/Collection"), (47, .class_ 61), (0, u "java/lang/Object"), (0, .class_ 63), (0, u "java/lang/Iterable")] 51

/-- java/util/Collection -/
def k17 : Class := { plain "java/util/Collection" (some 0) with
  accessFlags := 1537
  interfaces := #[16]
  cf := some (fileOf pool17 10 #[] #[] 1537 60 #[62] #[])
  fields := #[]
  methods := #[]
  instanceTypes := #[]
  staticTypes := #[]
  resolved := Array.replicate 115 none
  statics := none }

def pool18 : Array CpInfo := pool [(8, .class_ 10), (1, u "java/util/SequencedCollection"), (15, .class_ 27), (0, u "java/lang/Object"), (0, .class_ 29), (0, u "java/util/Collection")] 27

/-- java/util/SequencedCollection -/
def k18 : Class := { plain "java/util/SequencedCollection" (some 0) with
  accessFlags := 1537
  interfaces := #[17]
  cf := some (fileOf pool18 8 #[] #[] 1537 26 #[28] #[])
  fields := #[]
  methods := #[]
  instanceTypes := #[]
  staticTypes := #[]
  resolved := Array.replicate 57 none
  statics := none }

def pool19 : Array CpInfo := pool [(8, .class_ 10), (1, u "java/util/List"), (20, u "(Ljava/lang/Object;)V"), (16, u "<init>"), (39, u "of"), (7, .class_ 97), (0, u "java/util/ImmutableCollections$List12"), (0, .methodref 96 99), (0, .nameAndType 48 31), (3, .class_ 104), (0, u "java/lang/Object"), (15, .class_ 121), (0, u "java/util/SequencedCollection"), (76, u "(Ljava/lang/Object;)Ljava/util/List;")] 52

def k19c0 : Code := { maxStack := 3, maxLocals := 1, code := jdk_40_method_37_code, exceptionTable := #[], attributes := #[] }
def k19m0 : Method := { name := "of", desc := "(Ljava/lang/Object;)Ljava/util/List;", sig := { parameters := [(.object "java/lang/Object")], returnType := some (.object "java/util/List") }, accessFlags := 9, code := some k19c0 }
/-- java/util/List -/
def k19 : Class := { plain "java/util/List" (some 0) with
  accessFlags := 1537
  interfaces := #[18]
  cf := some (fileOf pool19 8 #[] #[{ accessFlags := 9, nameIndex := 88, descriptorIndex := 198, attributes := #[] }] 1537 103 #[120] #[])
  fields := #[]
  methods := #[k19m0]
  instanceTypes := #[]
  staticTypes := #[]
  resolved := Array.replicate 251 none
  statics := none }

def pool20 : Array CpInfo := pool [(1, .methodref 2 3), (0, .class_ 4), (0, .nameAndType 5 6), (0, u "java/lang/Object"), (0, u "<init>"), (0, u "()V"), (1, .class_ 10), (1, u "java/util/AbstractCollection"), (66, .class_ 78), (0, u "java/util/Collection")] 81

def k20c0 : Code := { maxStack := 1, maxLocals := 1, code := jdk_22_method_1_code, exceptionTable := #[], attributes := #[] }
def k20m0 : Method := { name := "<init>", desc := "()V", sig := { parameters := [], returnType := none }, accessFlags := 4, code := some k20c0 }
/-- java/util/AbstractCollection -/
def k20 : Class := { plain "java/util/AbstractCollection" (some 0) with
  accessFlags := 1057
  interfaces := #[17]
  cf := some (fileOf pool20 8 #[] #[{ accessFlags := 4, nameIndex := 5, descriptorIndex := 6, attributes := #[] }] 1057 2 #[77] #[])
  fields := #[]
  methods := #[k20m0]
  instanceTypes := #[]
  staticTypes := #[]
  resolved := Array.replicate 160 none
  statics := none }

def pool21 : Array CpInfo := pool [(1, .methodref 2 3), (0, .class_ 4), (0, .nameAndType 5 6), (0, u "java/util/AbstractCollection"), (0, u "<init>"), (0, u "()V"), (1, .class_ 10), (1, u "java/util/ImmutableCollections"), (2, .class_ 14), (0, u "java/util/ImmutableCollections$AbstractImmutableCollection")] 41

def k21c0 : Code := { maxStack := 1, maxLocals := 1, code := jdk_47_method_1_code, exceptionTable := #[], attributes := #[] }
def k21m0 : Method := { name := "<init>", desc := "()V", sig := { parameters := [], returnType := none }, accessFlags := 0, code := some k21c0 }
/-- java/util/ImmutableCollections$AbstractImmutableCollection -/
def k21 : Class := { plain "java/util/ImmutableCollections$AbstractImmutableCollection" (some 20) with
  accessFlags := 1056
  interfaces := #[]
  cf := some (fileOf pool21 13 #[.nestHost 8] #[{ accessFlags := 0, nameIndex := 5, descriptorIndex := 6, attributes := #[] }] 1056 2 #[] #[])
  fields := #[]
  methods := #[k21m0]
  instanceTypes := #[]
  staticTypes := #[]
  resolved := Array.replicate 56 none
  statics := none }

def pool22 : Array CpInfo := pool [(1, .class_ 2), (0, u "java/util/RandomAccess"), (0, .class_ 4), (0, u "java/lang/Object")] 2

/-- java/util/RandomAccess -/
def k22 : Class := { plain "java/util/RandomAccess" (some 0) with
  accessFlags := 1537
  interfaces := #[]
  cf := some (fileOf pool22 1 #[] #[] 1537 3 #[] #[])
  fields := #[]
  methods := #[]
  instanceTypes := #[]
  staticTypes := #[]
  resolved := Array.replicate 7 none
  statics := none }

def pool23 : Array CpInfo := pool [(1, .methodref 2 3), (0, .class_ 4), (0, .nameAndType 5 6), (0, u "java/util/ImmutableCollections$AbstractImmutableCollection"), (0, u "<init>"), (0, u "()V"), (1, .class_ 10), (1, u "java/util/ImmutableCollections"), (3, .class_ 16), (1, u "java/util/ImmutableCollections$AbstractImmutableList"), (60, .class_ 78), (0, u "java/util/List"), (45, .class_ 125), (0, u "java/util/RandomAccess")] 70

def k23c0 : Code := { maxStack := 1, maxLocals := 1, code := jdk_46_method_1_code, exceptionTable := #[], attributes := #[] }
def k23m0 : Method := { name := "<init>", desc := "()V", sig := { parameters := [], returnType := none }, accessFlags := 0, code := some k23c0 }
/-- java/util/ImmutableCollections$AbstractImmutableList -/
def k23 : Class := { plain "java/util/ImmutableCollections$AbstractImmutableList" (some 21) with
  accessFlags := 1056
  interfaces := #[19, 22]
  cf := some (fileOf pool23 14 #[.nestHost 8] #[{ accessFlags := 0, nameIndex := 5, descriptorIndex := 6, attributes := #[] }] 1056 2 #[77, 124] #[])
  fields := #[]
  methods := #[k23m0]
  instanceTypes := #[]
  staticTypes := #[]
  resolved := Array.replicate 196 none
  statics := none }

def pool24 : Array CpInfo := pool [(1, .methodref 2 3), (0, .class_ 4), (0, .nameAndType 5 6), (0, u "java/util/ImmutableCollections$AbstractImmutableList"), (0, u "<init>"), (0, u "()V"), (0, .methodref 8 9), (0, .class_ 10), (0, .nameAndType 11 12), (0, u "java/util/Objects"), (0, u "requireNonNull"), (0, u "(Ljava/lang/Object;)Ljava/lang/Object;"), (0, .fieldref 14 15), (0, .class_ 16), (0, .nameAndType 17 18), (0, u "java/util/ImmutableCollections$List12"), (0, u "e0"), (0, u "Ljava/lang/Object;"), (0, .fieldref 20 21), (0, .class_ 22), (0, .nameAndType 23 18), (0, u "java/util/ImmutableCollections"), (0, u "EMPTY"), (0, .fieldref 14 25), (0, .nameAndType 26 18), (0, u "e1"), (43, .class_ 71), (0, u "java/io/Serializable"), (4, u "(Ljava/lang/Object;)V")] 48

def k24c0 : Code := { maxStack := 2, maxLocals := 2, code := jdk_44_method_1_code, exceptionTable := #[], attributes := #[] }
def k24m0 : Method := { name := "<init>", desc := "(Ljava/lang/Object;)V", sig := { parameters := [(.object "java/lang/Object")], returnType := none }, accessFlags := 0, code := some k24c0 }
/-- java/util/ImmutableCollections$List12 -/
def k24 : Class := { plain "java/util/ImmutableCollections$List12" (some 23) with
  accessFlags := 48
  interfaces := #[4]
  cf := some (fileOf pool24 14 #[.nestHost 20] #[{ accessFlags := 0, nameIndex := 5, descriptorIndex := 76, attributes := #[] }] 48 2 #[70] #[{ accessFlags := 18, nameIndex := 17, descriptorIndex := 18, attributes := #[] }, { accessFlags := 18, nameIndex := 26, descriptorIndex := 18, attributes := #[] }])
  fields := #[{ name := "e0", type := (.object "java/lang/Object"), accessFlags := 18, slot := 0, constantValue := 0 }, { name := "e1", type := (.object "java/lang/Object"), accessFlags := 18, slot := 1, constantValue := 0 }]
  methods := #[k24m0]
  instanceTypes := #[(.object "java/lang/Object"), (.object "java/lang/Object")]
  staticTypes := #[]
  resolved := Array.replicate 125 none
  statics := none }

def pool25 : Array CpInfo := pool [(2, .class_ 4), (1, u "java/lang/Object"), (0, u "<init>"), (0, u "()V"), (3, .class_ 11), (0, u "java/util/ImmutableCollections$List12"), (0, .class_ 13), (0, u "java/util/ImmutableCollections$ListN"), (3, u "Z"), (29, .class_ 49), (1, u "java/util/ImmutableCollections"), (0, u "$assertionsDisabled"), (5, u "[Ljava/lang/Object;"), (5, u "EMPTY_LIST"), (0, u "Ljava/util/ImmutableCollections$ListN;"), (8, u "EMPTY_LIST_NULLS"), (22, u "SALT32L"), (0, u "J"), (2, u "REVERSE"), (6, u "archivedObjects"), (2, u "EMPTY"), (0, u "Ljava/lang/Object;"), (0, .class_ 112), (0, u "java/util/ImmutableCollections$SetN"), (5, u "EMPTY_SET"), (0, u "Ljava/util/ImmutableCollections$SetN;"), (0, .class_ 121), (0, u "java/util/ImmutableCollections$MapN"), (3, u "EMPTY_MAP"), (0, u "Ljava/util/ImmutableCollections$MapN;"), (4, u "EXPAND_FACTOR"), (0, u "I"), (36, .class_ 170), (0, u "java/util/ImmutableCollections$MapN$MapNIterator"), (0, .class_ 172), (0, u "java/util/ImmutableCollections$MapN$1"), (0, .class_ 174), (0, u "java/util/ImmutableCollections$Map1"), (0, .class_ 176), (0, u "java/util/ImmutableCollections$AbstractImmutableMap"), (0, .class_ 178), (0, u "java/util/ImmutableCollections$SetN$SetNIterator"), (0, .class_ 180), (0, u "java/util/ImmutableCollections$Set12"), (0, .class_ 182), (0, u "java/util/ImmutableCollections$Set12$1"), (0, .class_ 184), (0, u "java/util/ImmutableCollections$AbstractImmutableSet"), (0, .class_ 186), (0, u "java/util/ImmutableCollections$SubList"), (0, .class_ 188), (0, u "java/util/ImmutableCollections$ListItr"), (0, .class_ 190), (0, u "java/util/ImmutableCollections$AbstractImmutableList"), (0, .class_ 192), (0, u "java/util/ImmutableCollections$AbstractImmutableCollection"), (0, .class_ 194), (0, u "java/util/ImmutableCollections$Access"), (0, .class_ 196), (0, u "java/util/ImmutableCollections$Access$1")] 16

def k25m0 : Method := { name := "<init>", desc := "()V", sig := { parameters := [], returnType := none }, accessFlags := 2, code := none }
/-- java/util/ImmutableCollections -/
def k25 : Class := { plain "java/util/ImmutableCollections" (some 0) with
  accessFlags := 32
  interfaces := #[]
  cf := some (fileOf pool25 47 #[.nestMembers #[120, 169, 171, 173, 175, 111, 177, 179, 181, 183, 12, 10, 185, 187, 189, 191, 193, 195]] #[{ accessFlags := 2, nameIndex := 5, descriptorIndex := 6, attributes := #[] }] 32 2 #[] #[{ accessFlags := 26, nameIndex := 95, descriptorIndex := 96, attributes := #[] }, { accessFlags := 26, nameIndex := 99, descriptorIndex := 17, attributes := #[] }, { accessFlags := 10, nameIndex := 106, descriptorIndex := 56, attributes := #[] }, { accessFlags := 26, nameIndex := 109, descriptorIndex := 110, attributes := #[] }, { accessFlags := 24, nameIndex := 62, descriptorIndex := 63, attributes := #[] }, { accessFlags := 24, nameIndex := 72, descriptorIndex := 63, attributes := #[] }, { accessFlags := 24, nameIndex := 118, descriptorIndex := 119, attributes := #[] }, { accessFlags := 24, nameIndex := 125, descriptorIndex := 126, attributes := #[] }, { accessFlags := 24, nameIndex := 131, descriptorIndex := 132, attributes := #[] }, { accessFlags := 4120, nameIndex := 50, descriptorIndex := 17, attributes := #[] }])
  fields := #[{ name := "SALT32L", type := .long, accessFlags := 26, slot := 0, constantValue := 0 }, { name := "REVERSE", type := .boolean, accessFlags := 26, slot := 1, constantValue := 0 }, { name := "archivedObjects", type := (.array (.object "java/lang/Object")), accessFlags := 10, slot := 2, constantValue := 0 }, { name := "EMPTY", type := (.object "java/lang/Object"), accessFlags := 26, slot := 3, constantValue := 0 }, { name := "EMPTY_LIST", type := (.object "java/util/ImmutableCollections$ListN"), accessFlags := 24, slot := 4, constantValue := 0 }, { name := "EMPTY_LIST_NULLS", type := (.object "java/util/ImmutableCollections$ListN"), accessFlags := 24, slot := 5, constantValue := 0 }, { name := "EMPTY_SET", type := (.object "java/util/ImmutableCollections$SetN"), accessFlags := 24, slot := 6, constantValue := 0 }, { name := "EMPTY_MAP", type := (.object "java/util/ImmutableCollections$MapN"), accessFlags := 24, slot := 7, constantValue := 0 }, { name := "EXPAND_FACTOR", type := .int, accessFlags := 24, slot := 8, constantValue := 0 }, { name := "$assertionsDisabled", type := .boolean, accessFlags := 4120, slot := 9, constantValue := 0 }]
  methods := #[k25m0]
  instanceTypes := #[]
  staticTypes := #[.long, .boolean, (.array (.object "java/lang/Object")), (.object "java/lang/Object"), (.object "java/util/ImmutableCollections$ListN"), (.object "java/util/ImmutableCollections$ListN"), (.object "java/util/ImmutableCollections$SetN"), (.object "java/util/ImmutableCollections$MapN"), .int, .boolean]
  resolved := Array.replicate 213 none
  statics := some 2 }

def pool26 : Array CpInfo := pool [(1, .methodref 2 3), (0, .class_ 4), (0, .nameAndType 5 6), (0, u "java/util/AbstractCollection"), (0, u "<init>"), (0, u "()V"), (0, .fieldref 8 9), (0, .class_ 10), (0, .nameAndType 11 12), (0, u "java/util/AbstractList"), (0, u "modCount"), (0, u "I"), (64, .class_ 78), (0, u "java/util/AbstractList$Itr"), (3, .class_ 83), (0, u "java/util/AbstractList$ListItr"), (9, .class_ 94), (0, u "java/util/AbstractList$RandomAccessSubList"), (3, .class_ 99), (0, u "java/util/AbstractList$SubList"), (33, .class_ 134), (0, u "java/util/List"), (73, .class_ 209), (0, u "java/util/AbstractList$SubList$1"), (0, .class_ 211), (0, u "java/util/AbstractList$RandomAccessSpliterator")] 6

def k26c0 : Code := { maxStack := 2, maxLocals := 1, code := jdk_39_method_1_code, exceptionTable := #[], attributes := #[] }
def k26m0 : Method := { name := "<init>", desc := "()V", sig := { parameters := [], returnType := none }, accessFlags := 4, code := some k26c0 }
/-- java/util/AbstractList -/
def k26 : Class := { plain "java/util/AbstractList" (some 20) with
  accessFlags := 1057
  interfaces := #[19]
  cf := some (fileOf pool26 8 #[.nestMembers #[93, 98, 208, 210, 82, 77]] #[{ accessFlags := 4, nameIndex := 5, descriptorIndex := 6, attributes := #[] }] 1057 2 #[133] #[{ accessFlags := 132, nameIndex := 11, descriptorIndex := 12, attributes := #[] }])
  fields := #[{ name := "modCount", type := .int, accessFlags := 132, slot := 0, constantValue := 0 }]
  methods := #[k26m0]
  instanceTypes := #[.int]
  staticTypes := #[]
  resolved := Array.replicate 218 none
  statics := none }

def pool27 : Array CpInfo := pool [(1, .class_ 2), (0, u "java/lang/Cloneable"), (0, .class_ 4), (0, u "java/lang/Object")] 2

/-- java/lang/Cloneable -/
def k27 : Class := { plain "java/lang/Cloneable" (some 0) with
  accessFlags := 1537
  interfaces := #[]
  cf := some (fileOf pool27 1 #[] #[] 1537 3 #[] #[])
  fields := #[]
  methods := #[]
  instanceTypes := #[]
  staticTypes := #[]
  resolved := Array.replicate 7 none
  statics := none }

def pool28 : Array CpInfo := pool [(1, .methodref 2 3), (0, .class_ 4), (0, .nameAndType 5 6), (0, u "java/util/AbstractList"), (0, u "<init>"), (0, u "()V"), (0, .class_ 8), (0, u "java/lang/Object"), (0, .fieldref 10 11), (0, .class_ 12), (0, .nameAndType 13 14), (0, u "java/util/ArrayList"), (0, u "elementData"), (0, u "[Ljava/lang/Object;"), (2, u "EMPTY_ELEMENTDATA"), (21, .fieldref 10 40), (0, .nameAndType 41 14), (0, u "DEFAULTCAPACITY_EMPTY_ELEMENTDATA"), (5, u "()[Ljava/lang/Object;"), (0, .fieldref 10 49), (0, .nameAndType 50 51), (0, u "size"), (0, u "I"), (11, .fieldref 10 64), (0, .nameAndType 65 51), (0, u "modCount"), (3, .methodref 10 70), (0, .nameAndType 71 72), (0, u "grow"), (0, u "(I)[Ljava/lang/Object;"), (6, .methodref 80 81), (0, .class_ 82), (0, .nameAndType 83 84), (0, u "java/lang/Math"), (0, u "max"), (0, u "(II)I"), (11, u "(Ljava/lang/Object;)Z"), (32, .methodref 10 130), (0, .nameAndType 71 47), (0, .methodref 10 132), (0, .nameAndType 133 134), (0, u "add"), (0, u "(Ljava/lang/Object;[Ljava/lang/Object;I)V"), (13, .class_ 149), (0, u "java/util/List"), (112, .class_ 263), (0, u "java/util/ArrayList$ListItr"), (3, .class_ 268), (0, u "java/util/ArrayList$Itr"), (7, .class_ 277), (0, u "java/util/ArrayList$SubList"), (12, .class_ 291), (0, u "java/util/ArrayList$ArrayListSpliterator"), (37, .class_ 330), (0, u "java/util/RandomAccess"), (0, .class_ 332), (0, u "java/lang/Cloneable"), (0, .class_ 334), (0, u "java/io/Serializable"), (0, u "serialVersionUID"), (0, u "J"), (3, u "DEFAULT_CAPACITY"), (159, .class_ 501), (0, u "java/util/ArrayList$SubList$2"), (0, .class_ 503), (0, u "java/util/ArrayList$SubList$1")] 5

def k28c0 : Code := { maxStack := 2, maxLocals := 1, code := jdk_38_method_2_code, exceptionTable := #[], attributes := #[] }
def k28m0 : Method := { name := "<init>", desc := "()V", sig := { parameters := [], returnType := none }, accessFlags := 1, code := some k28c0 }
def k28c1 : Code := { maxStack := 4, maxLocals := 4, code := jdk_38_method_6_code, exceptionTable := #[], attributes := #[] }
def k28m1 : Method := { name := "grow", desc := "(I)[Ljava/lang/Object;", sig := { parameters := [.int], returnType := some (.array (.object "java/lang/Object")) }, accessFlags := 2, code := some k28c1 }
def k28c2 : Code := { maxStack := 3, maxLocals := 1, code := jdk_38_method_7_code, exceptionTable := #[], attributes := #[] }
def k28m2 : Method := { name := "grow", desc := "()[Ljava/lang/Object;", sig := { parameters := [], returnType := some (.array (.object "java/lang/Object")) }, accessFlags := 2, code := some k28c2 }
def k28c3 : Code := { maxStack := 3, maxLocals := 4, code := jdk_38_method_24_code, exceptionTable := #[], attributes := #[] }
def k28m3 : Method := { name := "add", desc := "(Ljava/lang/Object;[Ljava/lang/Object;I)V", sig := { parameters := [(.object "java/lang/Object"), (.array (.object "java/lang/Object")), .int], returnType := none }, accessFlags := 2, code := some k28c3 }
def k28c4 : Code := { maxStack := 4, maxLocals := 2, code := jdk_38_method_25_code, exceptionTable := #[], attributes := #[] }
def k28m4 : Method := { name := "add", desc := "(Ljava/lang/Object;)Z", sig := { parameters := [(.object "java/lang/Object")], returnType := some .boolean }, accessFlags := 1, code := some k28c4 }
/-- java/util/ArrayList -/
def k28 : Class := { plain "java/util/ArrayList" (some 26) with
  accessFlags := 33
  interfaces := #[19, 22, 27, 4]
  cf := some (fileOf pool28 10 #[.nestMembers #[290, 276, 500, 502, 262, 267]] #[{ accessFlags := 1, nameIndex := 5, descriptorIndex := 6, attributes := #[] }, { accessFlags := 2, nameIndex := 71, descriptorIndex := 72, attributes := #[] }, { accessFlags := 2, nameIndex := 71, descriptorIndex := 47, attributes := #[] }, { accessFlags := 2, nameIndex := 133, descriptorIndex := 134, attributes := #[] }, { accessFlags := 1, nameIndex := 133, descriptorIndex := 96, attributes := #[] }] 33 2 #[148, 329, 331, 333] #[{ accessFlags := 26, nameIndex := 335, descriptorIndex := 336, attributes := #[] }, { accessFlags := 26, nameIndex := 340, descriptorIndex := 51, attributes := #[] }, { accessFlags := 26, nameIndex := 17, descriptorIndex := 14, attributes := #[] }, { accessFlags := 26, nameIndex := 41, descriptorIndex := 14, attributes := #[] }, { accessFlags := 128, nameIndex := 13, descriptorIndex := 14, attributes := #[] }, { accessFlags := 2, nameIndex := 50, descriptorIndex := 51, attributes := #[] }])
  fields := #[{ name := "serialVersionUID", type := .long, accessFlags := 26, slot := 0, constantValue := 0 }, { name := "DEFAULT_CAPACITY", type := .int, accessFlags := 26, slot := 1, constantValue := 0 }, { name := "EMPTY_ELEMENTDATA", type := (.array (.object "java/lang/Object")), accessFlags := 26, slot := 2, constantValue := 0 }, { name := "DEFAULTCAPACITY_EMPTY_ELEMENTDATA", type := (.array (.object "java/lang/Object")), accessFlags := 26, slot := 3, constantValue := 0 }, { name := "elementData", type := (.array (.object "java/lang/Object")), accessFlags := 128, slot := 1, constantValue := 0 }, { name := "size", type := .int, accessFlags := 2, slot := 2, constantValue := 0 }]
  methods := #[k28m0, k28m1, k28m2, k28m3, k28m4]
  instanceTypes := #[.int, (.array (.object "java/lang/Object")), .int]
  staticTypes := #[.long, .int, (.array (.object "java/lang/Object")), (.array (.object "java/lang/Object"))]
  resolved := Array.replicate 509 none
  statics := some 3 }

def pool29 : Array CpInfo := pool [(1, .class_ 2), (0, u "java/lang/Math"), (1, .class_ 6), (1, u "java/lang/Object"), (0, u "<init>"), (0, u "()V"), (89, .class_ 100), (1, u "java/lang/Math$RandomNumberGeneratorHolder"), (71, u "negativeZeroFloatBits"), (0, u "J"), (2, u "negativeZeroDoubleBits"), (21, u "max"), (46, u "$assertionsDisabled"), (0, u "Z"), (88, u "(II)I"), (2, u "twoToTheDoubleScaleDown"), (0, u "D"), (4, u "twoToTheDoubleScaleUp"), (9, u "E"), (3, u "PI"), (2, u "TAU"), (2, u "DEGREES_TO_RADIANS"), (0, u "RADIANS_TO_DEGREES")] 94

def k29m0 : Method := { name := "<init>", desc := "()V", sig := { parameters := [], returnType := none }, accessFlags := 2, code := none }
def k29c1 : Code := { maxStack := 2, maxLocals := 2, code := jdk_29_method_65_code, exceptionTable := #[], attributes := #[] }
def k29m1 : Method := { name := "max", desc := "(II)I", sig := { parameters := [.int, .int], returnType := some .int }, accessFlags := 9, code := some k29c1 }
/-- java/lang/Math -/
def k29 : Class := { plain "java/lang/Math" (some 0) with
  accessFlags := 49
  interfaces := #[]
  cf := some (fileOf pool29 1 #[.nestMembers #[98]] #[{ accessFlags := 2, nameIndex := 7, descriptorIndex := 8, attributes := #[] }, { accessFlags := 9, nameIndex := 198, descriptorIndex := 335, attributes := #[] }] 49 4 #[] #[{ accessFlags := 25, nameIndex := 354, descriptorIndex := 339, attributes := #[] }, { accessFlags := 25, nameIndex := 358, descriptorIndex := 339, attributes := #[] }, { accessFlags := 25, nameIndex := 361, descriptorIndex := 339, attributes := #[] }, { accessFlags := 26, nameIndex := 364, descriptorIndex := 339, attributes := #[] }, { accessFlags := 26, nameIndex := 365, descriptorIndex := 339, attributes := #[] }, { accessFlags := 26, nameIndex := 172, descriptorIndex := 173, attributes := #[] }, { accessFlags := 26, nameIndex := 176, descriptorIndex := 173, attributes := #[] }, { accessFlags := 8, nameIndex := 344, descriptorIndex := 339, attributes := #[] }, { accessFlags := 8, nameIndex := 338, descriptorIndex := 339, attributes := #[] }, { accessFlags := 4120, nameIndex := 245, descriptorIndex := 246, attributes := #[] }])
  fields := #[{ name := "E", type := .double, accessFlags := 25, slot := 0, constantValue := 0 }, { name := "PI", type := .double, accessFlags := 25, slot := 1, constantValue := 0 }, { name := "TAU", type := .double, accessFlags := 25, slot := 2, constantValue := 0 }, { name := "DEGREES_TO_RADIANS", type := .double, accessFlags := 26, slot := 3, constantValue := 0 }, { name := "RADIANS_TO_DEGREES", type := .double, accessFlags := 26, slot := 4, constantValue := 0 }, { name := "negativeZeroFloatBits", type := .long, accessFlags := 26, slot := 5, constantValue := 0 }, { name := "negativeZeroDoubleBits", type := .long, accessFlags := 26, slot := 6, constantValue := 0 }, { name := "twoToTheDoubleScaleUp", type := .double, accessFlags := 8, slot := 7, constantValue := 0 }, { name := "twoToTheDoubleScaleDown", type := .double, accessFlags := 8, slot := 8, constantValue := 0 }, { name := "$assertionsDisabled", type := .boolean, accessFlags := 4120, slot := 9, constantValue := 0 }]
  methods := #[k29m0, k29m1]
  instanceTypes := #[]
  staticTypes := #[.double, .double, .double, .double, .double, .long, .long, .double, .double, .boolean]
  resolved := Array.replicate 460 none
  statics := none }

def pool30 : Array CpInfo := pool [(2, .class_ 4), (1, u "java/lang/Object"), (0, u "<init>"), (0, u "()V"), (17, .class_ 26), (1, u "jdk/internal/util/Preconditions"), (28, .class_ 56), (0, u "jdk/internal/util/Preconditions$4"), (57, .class_ 115), (0, u "jdk/internal/util/Preconditions$1"), (7, u "SIOOBE_FORMATTER"), (0, u "Ljava/util/function/BiFunction;"), (0, .class_ 126), (0, u "jdk/internal/util/Preconditions$2"), (3, u "AIOOBE_FORMATTER"), (0, .class_ 132), (0, u "jdk/internal/util/Preconditions$3"), (3, u "IOOBE_FORMATTER")] 57

def k30m0 : Method := { name := "<init>", desc := "()V", sig := { parameters := [], returnType := none }, accessFlags := 1, code := none }
/-- jdk/internal/util/Preconditions -/
def k30 : Class := { plain "jdk/internal/util/Preconditions" (some 0) with
  accessFlags := 33
  interfaces := #[]
  cf := some (fileOf pool30 24 #[.nestMembers #[55, 131, 125, 114]] #[{ accessFlags := 1, nameIndex := 5, descriptorIndex := 6, attributes := #[] }] 33 2 #[] #[{ accessFlags := 25, nameIndex := 123, descriptorIndex := 124, attributes := #[] }, { accessFlags := 25, nameIndex := 130, descriptorIndex := 124, attributes := #[] }, { accessFlags := 25, nameIndex := 136, descriptorIndex := 124, attributes := #[] }])
  fields := #[{ name := "SIOOBE_FORMATTER", type := (.object "java/util/function/BiFunction"), accessFlags := 25, slot := 0, constantValue := 0 }, { name := "AIOOBE_FORMATTER", type := (.object "java/util/function/BiFunction"), accessFlags := 25, slot := 1, constantValue := 0 }, { name := "IOOBE_FORMATTER", type := (.object "java/util/function/BiFunction"), accessFlags := 25, slot := 2, constantValue := 0 }]
  methods := #[k30m0]
  instanceTypes := #[]
  staticTypes := #[(.object "java/util/function/BiFunction"), (.object "java/util/function/BiFunction"), (.object "java/util/function/BiFunction")]
  resolved := Array.replicate 194 none
  statics := some 4 }

def pool31 : Array CpInfo := pool [(9, u "<init>"), (6, .class_ 18), (1, u "java/lang/Object"), (0, u "()V"), (1, .class_ 23), (1, u "jdk/internal/util/ArraysSupport"), (0, u "LOG2_ARRAY_LONG_INDEX_SCALE"), (0, u "I"), (2, u "U"), (0, u "Ljdk/internal/misc/Unsafe;"), (8, u "BIG_ENDIAN"), (0, u "Z"), (8, u "LOG2_BYTE_BIT_SIZE"), (4, u "LOG2_ARRAY_INT_INDEX_SCALE"), (54, u "JLA"), (0, u "Ljdk/internal/access/JavaLangAccess;"), (11, u "LOG2_ARRAY_BOOLEAN_INDEX_SCALE"), (9, u "LOG2_ARRAY_BYTE_INDEX_SCALE"), (5, u "LOG2_ARRAY_CHAR_INDEX_SCALE"), (5, u "LOG2_ARRAY_SHORT_INDEX_SCALE"), (18, u "LOG2_ARRAY_FLOAT_INDEX_SCALE"), (24, u "LOG2_ARRAY_DOUBLE_INDEX_SCALE"), (89, u "T_BOOLEAN"), (2, u "T_CHAR"), (1, u "T_FLOAT"), (1, u "T_DOUBLE"), (1, u "T_BYTE"), (1, u "T_SHORT"), (1, u "T_INT"), (1, u "T_LONG"), (1, u "SOFT_MAX_ARRAY_LENGTH")] 83

def k31m0 : Method := { name := "<init>", desc := "()V", sig := { parameters := [], returnType := none }, accessFlags := 2, code := none }
/-- jdk/internal/util/ArraysSupport -/
def k31 : Class := { plain "jdk/internal/util/ArraysSupport" (some 0) with
  accessFlags := 33
  interfaces := #[]
  cf := some (fileOf pool31 21 #[] #[{ accessFlags := 2, nameIndex := 9, descriptorIndex := 19, attributes := #[] }] 33 16 #[] #[{ accessFlags := 24, nameIndex := 28, descriptorIndex := 29, attributes := #[] }, { accessFlags := 26, nameIndex := 38, descriptorIndex := 39, attributes := #[] }, { accessFlags := 25, nameIndex := 121, descriptorIndex := 25, attributes := #[] }, { accessFlags := 25, nameIndex := 131, descriptorIndex := 25, attributes := #[] }, { accessFlags := 25, nameIndex := 137, descriptorIndex := 25, attributes := #[] }, { accessFlags := 25, nameIndex := 143, descriptorIndex := 25, attributes := #[] }, { accessFlags := 25, nameIndex := 53, descriptorIndex := 25, attributes := #[] }, { accessFlags := 25, nameIndex := 24, descriptorIndex := 25, attributes := #[] }, { accessFlags := 25, nameIndex := 162, descriptorIndex := 25, attributes := #[] }, { accessFlags := 25, nameIndex := 187, descriptorIndex := 25, attributes := #[] }, { accessFlags := 26, nameIndex := 48, descriptorIndex := 25, attributes := #[] }, { accessFlags := 25, nameIndex := 277, descriptorIndex := 25, attributes := #[] }, { accessFlags := 25, nameIndex := 280, descriptorIndex := 25, attributes := #[] }, { accessFlags := 25, nameIndex := 282, descriptorIndex := 25, attributes := #[] }, { accessFlags := 25, nameIndex := 284, descriptorIndex := 25, attributes := #[] }, { accessFlags := 25, nameIndex := 286, descriptorIndex := 25, attributes := #[] }, { accessFlags := 25, nameIndex := 288, descriptorIndex := 25, attributes := #[] }, { accessFlags := 25, nameIndex := 290, descriptorIndex := 25, attributes := #[] }, { accessFlags := 25, nameIndex := 292, descriptorIndex := 25, attributes := #[] }, { accessFlags := 26, nameIndex := 108, descriptorIndex := 109, attributes := #[] }, { accessFlags := 25, nameIndex := 294, descriptorIndex := 25, attributes := #[] }])
  fields := #[{ name := "U", type := (.object "jdk/internal/misc/Unsafe"), accessFlags := 24, slot := 0, constantValue := 0 }, { name := "BIG_ENDIAN", type := .boolean, accessFlags := 26, slot := 1, constantValue := 0 }, { name := "LOG2_ARRAY_BOOLEAN_INDEX_SCALE", type := .int, accessFlags := 25, slot := 2, constantValue := 0 }, { name := "LOG2_ARRAY_BYTE_INDEX_SCALE", type := .int, accessFlags := 25, slot := 3, constantValue := 0 }, { name := "LOG2_ARRAY_CHAR_INDEX_SCALE", type := .int, accessFlags := 25, slot := 4, constantValue := 0 }, { name := "LOG2_ARRAY_SHORT_INDEX_SCALE", type := .int, accessFlags := 25, slot := 5, constantValue := 0 }, { name := "LOG2_ARRAY_INT_INDEX_SCALE", type := .int, accessFlags := 25, slot := 6, constantValue := 0 }, { name := "LOG2_ARRAY_LONG_INDEX_SCALE", type := .int, accessFlags := 25, slot := 7, constantValue := 0 }, { name := "LOG2_ARRAY_FLOAT_INDEX_SCALE", type := .int, accessFlags := 25, slot := 8, constantValue := 0 }, { name := "LOG2_ARRAY_DOUBLE_INDEX_SCALE", type := .int, accessFlags := 25, slot := 9, constantValue := 0 }, { name := "LOG2_BYTE_BIT_SIZE", type := .int, accessFlags := 26, slot := 10, constantValue := 0 }, { name := "T_BOOLEAN", type := .int, accessFlags := 25, slot := 11, constantValue := 0 }, { name := "T_CHAR", type := .int, accessFlags := 25, slot := 12, constantValue := 0 }, { name := "T_FLOAT", type := .int, accessFlags := 25, slot := 13, constantValue := 0 }, { name := "T_DOUBLE", type := .int, accessFlags := 25, slot := 14, constantValue := 0 }, { name := "T_BYTE", type := .int, accessFlags := 25, slot := 15, constantValue := 0 }, { name := "T_SHORT", type := .int, accessFlags := 25, slot := 16, constantValue := 0 }, { name := "T_INT", type := .int, accessFlags := 25, slot := 17, constantValue := 0 }, { name := "T_LONG", type := .int, accessFlags := 25, slot := 18, constantValue := 0 }, { name := "JLA", type := (.object "jdk/internal/access/JavaLangAccess"), accessFlags := 26, slot := 19, constantValue := 0 }, { name := "SOFT_MAX_ARRAY_LENGTH", type := .int, accessFlags := 25, slot := 20, constantValue := 0 }]
  methods := #[k31m0]
  instanceTypes := #[]
  staticTypes := #[(.object "jdk/internal/misc/Unsafe"), .boolean, .int, .int, .int, .int, .int, .int, .int, .int, .int, .int, .int, .int, .int, .int, .int, .int, .int, (.object "jdk/internal/access/JavaLangAccess"), .int]
  resolved := Array.replicate 378 none
  statics := none }

def pool32 : Array CpInfo := pool [(2, .class_ 4), (1, u "java/util/ImmutableCollections$AbstractImmutableList"), (3, .class_ 10), (1, u "java/util/ImmutableCollections$ListN"), (0, u "elements"), (0, u "[Ljava/lang/Object;"), (2, u "allowNulls"), (0, u "Z"), (42, .class_ 60), (0, u "java/io/Serializable"), (53, .class_ 115), (0, u "java/util/ImmutableCollections")] 3

/-- java/util/ImmutableCollections$ListN -/
def k32 : Class := { plain "java/util/ImmutableCollections$ListN" (some 23) with
  accessFlags := 48
  interfaces := #[4]
  cf := some (fileOf pool32 8 #[.nestHost 114] #[] 48 2 #[59] #[{ accessFlags := 18, nameIndex := 11, descriptorIndex := 12, attributes := #[] }, { accessFlags := 18, nameIndex := 15, descriptorIndex := 16, attributes := #[] }])
  fields := #[{ name := "elements", type := (.array (.object "java/lang/Object")), accessFlags := 18, slot := 0, constantValue := 0 }, { name := "allowNulls", type := .boolean, accessFlags := 18, slot := 1, constantValue := 0 }]
  methods := #[]
  instanceTypes := #[(.array (.object "java/lang/Object")), .boolean]
  staticTypes := #[]
  resolved := Array.replicate 119 none
  statics := none }

/-- the primitive byte -/
def k33 : Class := { plain "byte" none with kind := .primitive 'B', accessFlags := 0x411 }
/-- [B -/
def k34 : Class := { plain "[B" (some 0) with kind := .array 33 .byte, interfaces := #[27, 4], accessFlags := 1041 }

/-- the primitive char -/
def k35 : Class := { plain "char" none with kind := .primitive 'C', accessFlags := 0x411 }
/-- [C -/
def k36 : Class := { plain "[C" (some 0) with kind := .array 35 .char, interfaces := #[27, 4], accessFlags := 1041 }

/-- the primitive int -/
def k37 : Class := { plain "int" none with kind := .primitive 'I', accessFlags := 0x411 }
/-- [I -/
def k38 : Class := { plain "[I" (some 0) with kind := .array 37 .int, interfaces := #[27, 4], accessFlags := 1041 }

/-- [Ljava/lang/Object; -/
def k39 : Class := { plain "[Ljava/lang/Object;" (some 0) with kind := .array 0 (.object "java/lang/Object"), interfaces := #[27, 4], accessFlags := 1041 }

def heap : Heap := #[{ cls := 6, slots := #[.ref 5, .ref 6, .ref 7, .null], vm := .statics 6 },
  { cls := 9, slots := #[.long 0, .int 1, .null, .int 0, .null, .int 0, .int 0], vm := .statics 9 },
  { cls := 25, slots := #[.long 0, .int 0, .null, .ref 8, .ref 9, .null, .null, .null, .int 0, .int 1], vm := .statics 25 },
  { cls := 28, slots := #[.long 0, .int 0, .ref 10, .ref 11], vm := .statics 28 },
  { cls := 30, slots := #[.null, .null, .null], vm := .statics 30 },
  { cls := 6, slots := #[.null, .int 0, .int 0], vm := .none },
  { cls := 6, slots := #[.null, .int 0, .int 0], vm := .none },
  { cls := 6, slots := #[.null, .int 0, .int 0], vm := .none },
  { cls := 0, slots := #[], vm := .none },
  { cls := 32, slots := #[.null, .int 0], vm := .none },
  { cls := 39, slots := #[], vm := .none },
  { cls := 39, slots := #[], vm := .none }]
def classes : Array Class := #[k0, k1, k2, k3, k4, k5, k6, k7, k8, k9, k10, k11, k12, k13, k14, k15, k16, k17, k18, k19, k20, k21, k22, k23, k24, k25, k26, k27, k28, k29, k30, k31, k32, k33, k34, k35, k36, k37, k38, k39]
def interned : List (Array UInt16 × Addr) := []
def slotsUsed : Nat := 39
def theMethod : MethodId := ⟨1, 2⟩
def args0 : Array Value := #[.int 0, .int 0, .int 0, .int 0, .int 0, .int 0]
def aboutOver (below : List Frame) : State where
  vm := { classes := classes, interned := interned.toArray }
  heap := heap
  slotsUsed := slotsUsed
  threads := #[{ frames := .invoking theMethod args0 :: below }]
def below0 : List Frame := [.native { method := ⟨0, 0⟩, args := #[] }]
def about1 : State := aboutOver below0
def p0 : Program := .bare "" "" ""
def e0 : Env := launch0.env 0 0 0
theorem w_frames : about1.frames = Frame.invoking theMethod args0 :: below0 := rfl
set_option maxRecDepth 65536 in
theorem w_args : argsFit about1.vm theMethod args0 = true := by decide +kernel
set_option maxRecDepth 65536 in
theorem w_heap : heapFits about1 = true := by decide +kernel
set_option maxRecDepth 65536 in
theorem w_runnable : about1.curStatus? = some .runnable := by decide +kernel
set_option maxRecDepth 65536 in
theorem w_alone : about1.alone = true := by decide +kernel
set_option maxRecDepth 65536 in
theorem w_named : about1.methodNamed? x = some theMethod := by decide +kernel
set_option maxRecDepth 65536 in
theorem w_hears : about1.hears theMethod below0 = true := by decide +kernel
set_option maxRecDepth 65536 in
theorem w_ripe : about1.ripe theMethod args0 below0 = true := by decide +kernel
theorem w_running : about1.status = .running := rfl
set_option maxRecDepth 65536 in
theorem w_room : about1.hasRoom e0.platform room_1 = true :=
  launch0.hasRoom_least _ room_1 (by decide +kernel) (by decide +kernel) (by decide +kernel) (by decide +kernel) (by decide +kernel) (by decide +kernel)
theorem allAtoms_all (ts : List Jvm.Cond) (a : Array Jvm.Value) (st : Jvm.State) : (allAtoms ts).before a st = ts.all (fun c => c.before a st) := by
  induction ts with
  | nil => rfl
  | cons c t ih =>
    show (Jvm.Cond.and c (allAtoms t)).before a st = _
    rw [Jvm.Cond.before_and, ih, List.all_cons]
def words1 : List Jvm.Cond := Jvm.Cond.code x code maxLocals ret :: tables_1
/-- a 'code' word, met by the world's own term for the bytes: nothing is compared byte by byte -/
theorem code_word {y : MethodName} {bytes : ByteArray} {mx : Nat} {rt : Option FieldType} {a : Array Value} {s : State} {m : MethodId} {meth : Method} {c : Code} (h1 : s.methodNamed? y = some m) (h2 : s.vm.method? m = some meth) (h3 : meth.code = some c) (h4 : c.code = bytes)
    (h5 : (c.maxLocals == mx && c.exceptionTable.isEmpty && decide (c.maxStack ≤ mostOperands) && decide (meth.sig.returnType = rt) && !meth.locks && decide (parseMethodDescriptor y.desc = some meth.sig)) = true) : (Jvm.Cond.code y bytes mx rt).before a s = true := by
  simp only [Bool.and_eq_true, beq_iff_eq, Bool.not_eq_true', decide_eq_true_eq] at h5
  obtain ⟨⟨⟨⟨⟨g1, g2⟩, g3⟩, g4⟩, g5⟩, g6⟩ := h5
  simp [Cond.before, Cond.holds, Cond.value, h1, h2, h3, h4, g1, g2, g3, g4, g5, g6]
def isCode : Jvm.Cond → Bool
  | .code _ _ _ _ => true
  | _ => false
theorem all_split {L : List Jvm.Cond} {P : Jvm.Cond → Bool} (h1 : L.all (fun c => isCode c || P c) = true) (h2 : ∀ c ∈ L.filter isCode, P c = true) : L.all P = true := by
  refine List.all_eq_true.mpr fun c hc => ?_
  have h := List.all_eq_true.mp h1 c hc
  rcases Bool.eq_false_or_eq_true (isCode c) with hi | hi
  · exact h2 c (List.mem_filter.mpr ⟨hc, hi⟩)
  · simpa [hi] using h
set_option maxRecDepth 65536 in
theorem w_c0 : (Jvm.Cond.code x code maxLocals ret).before args0 about1 = true := code_word (m := ⟨1, 2⟩) (meth := k1m2) (c := k1c2) (by decide +kernel) rfl rfl rfl (by decide +kernel)
set_option maxRecDepth 65536 in
theorem w_c1 : (Jvm.Cond.code ({ cls := "com/example/hew/hew/FieldIsMapPinLaw", name := "kindOf", desc := "(I)Lcom/example/hew/hew/Message$Field$Kind;" } : Jvm.MethodName) method_2_code (2 : Nat) (Option.some (Jvm.ClassFile.FieldType.object "com/example/hew/hew/Message$Field$Kind"))).before args0 about1 = true := code_word (m := ⟨1, 1⟩) (meth := k1m1) (c := k1c1) (by decide +kernel) rfl rfl rfl (by decide +kernel)
set_option maxRecDepth 65536 in
theorem w_c2 : (Jvm.Cond.code ({ cls := "java/lang/String", name := "<init>", desc := "([C)V" } : Jvm.MethodName) jdk_42_method_3_code (2 : Nat) (Option.none : Option Jvm.ClassFile.FieldType)).before args0 about1 = true := code_word (m := ⟨9, 1⟩) (meth := k9m1) (c := k9c1) (by decide +kernel) rfl rfl rfl (by decide +kernel)
set_option maxRecDepth 65536 in
theorem w_c3 : (Jvm.Cond.code ({ cls := "java/lang/String", name := "<init>", desc := "([CIILjava/lang/Void;)V" } : Jvm.MethodName) jdk_42_method_149_code (6 : Nat) (Option.none : Option Jvm.ClassFile.FieldType)).before args0 about1 = true := code_word (m := ⟨9, 3⟩) (meth := k9m3) (c := k9c3) (by decide +kernel) rfl rfl rfl (by decide +kernel)
set_option maxRecDepth 65536 in
theorem w_c4 : (Jvm.Cond.code ({ cls := "java/lang/Object", name := "<init>", desc := "()V" } : Jvm.MethodName) object_method_1_code (1 : Nat) (Option.none : Option Jvm.ClassFile.FieldType)).before args0 about1 = true := code_word (m := ⟨0, 0⟩) (meth := k0m0) (c := k0c0) (by decide +kernel) rfl rfl rfl (by decide +kernel)
set_option maxRecDepth 65536 in
theorem w_c5 : (Jvm.Cond.code ({ cls := "java/lang/StringUTF16", name := "compress", desc := "([CII)[B" } : Jvm.MethodName) jdk_52_method_16_code (6 : Nat) (Option.some (Jvm.ClassFile.FieldType.array Jvm.ClassFile.FieldType.byte))).before args0 about1 = true := code_word (m := ⟨10, 2⟩) (meth := k10m2) (c := k10c2) (by decide +kernel) rfl rfl rfl (by decide +kernel)
set_option maxRecDepth 65536 in
theorem w_c6 : (Jvm.Cond.code ({ cls := "java/lang/StringUTF16", name := "compress", desc := "([CI[BII)I" } : Jvm.MethodName) jdk_52_method_21_code (7 : Nat) (Option.some Jvm.ClassFile.FieldType.int)).before args0 about1 = true := code_word (m := ⟨10, 3⟩) (meth := k10m3) (c := k10c3) (by decide +kernel) rfl rfl rfl (by decide +kernel)
set_option maxRecDepth 65536 in
theorem w_c7 : (Jvm.Cond.code ({ cls := "java/lang/StringUTF16", name := "coderFromArrayLen", desc := "([BI)B" } : Jvm.MethodName) jdk_52_method_15_code (2 : Nat) (Option.some Jvm.ClassFile.FieldType.byte)).before args0 about1 = true := code_word (m := ⟨10, 1⟩) (meth := k10m1) (c := k10c1) (by decide +kernel) rfl rfl rfl (by decide +kernel)
set_option maxRecDepth 65536 in
theorem w_c8 : (Jvm.Cond.code ({ cls := "java/lang/String", name := "valueOf", desc := "(C)Ljava/lang/String;" } : Jvm.MethodName) jdk_42_method_139_code (1 : Nat) (Option.some (Jvm.ClassFile.FieldType.object "java/lang/String"))).before args0 about1 = true := code_word (m := ⟨9, 2⟩) (meth := k9m2) (c := k9c2) (by decide +kernel) rfl rfl rfl (by decide +kernel)
set_option maxRecDepth 65536 in
theorem w_c9 : (Jvm.Cond.code ({ cls := "java/lang/StringLatin1", name := "canEncode", desc := "(C)Z" } : Jvm.MethodName) jdk_43_method_3_code (1 : Nat) (Option.some Jvm.ClassFile.FieldType.boolean)).before args0 about1 = true := code_word (m := ⟨11, 1⟩) (meth := k11m1) (c := k11c1) (by decide +kernel) rfl rfl rfl (by decide +kernel)
set_option maxRecDepth 65536 in
theorem w_c10 : (Jvm.Cond.code ({ cls := "java/lang/StringLatin1", name := "toBytes", desc := "(C)[B" } : Jvm.MethodName) jdk_43_method_46_code (1 : Nat) (Option.some (Jvm.ClassFile.FieldType.array Jvm.ClassFile.FieldType.byte))).before args0 about1 = true := code_word (m := ⟨11, 2⟩) (meth := k11m2) (c := k11c2) (by decide +kernel) rfl rfl rfl (by decide +kernel)
set_option maxRecDepth 65536 in
theorem w_c11 : (Jvm.Cond.code ({ cls := "java/lang/String", name := "<init>", desc := "([BB)V" } : Jvm.MethodName) jdk_42_method_151_code (3 : Nat) (Option.none : Option Jvm.ClassFile.FieldType)).before args0 about1 = true := code_word (m := ⟨9, 4⟩) (meth := k9m4) (c := k9c4) (by decide +kernel) rfl rfl rfl (by decide +kernel)
set_option maxRecDepth 65536 in
theorem w_c12 : (Jvm.Cond.code ({ cls := "com/example/hew/hew/Place", name := "<init>", desc := "(Ljava/lang/String;II)V" } : Jvm.MethodName) prog_39_method_1_code (4 : Nat) (Option.none : Option Jvm.ClassFile.FieldType)).before args0 about1 = true := code_word (m := ⟨12, 0⟩) (meth := k12m0) (c := k12c0) (by decide +kernel) rfl rfl rfl (by decide +kernel)
set_option maxRecDepth 65536 in
theorem w_c13 : (Jvm.Cond.code ({ cls := "java/util/Objects", name := "requireNonNull", desc := "(Ljava/lang/Object;Ljava/lang/String;)Ljava/lang/Object;" } : Jvm.MethodName) jdk_31_method_11_code (2 : Nat) (Option.some (Jvm.ClassFile.FieldType.object "java/lang/Object"))).before args0 about1 = true := code_word (m := ⟨13, 2⟩) (meth := k13m2) (c := k13c2) (by decide +kernel) rfl rfl rfl (by decide +kernel)
set_option maxRecDepth 65536 in
theorem w_c14 : (Jvm.Cond.code ({ cls := "com/example/hew/hew/Message$Field", name := "<init>", desc := "(Ljava/lang/String;Ljava/lang/String;Lcom/example/hew/hew/Message$Field$Kind;ZLjava/util/List;Lcom/example/hew/hew/Place;)V" } : Jvm.MethodName) prog_28_method_1_code (7 : Nat) (Option.none : Option Jvm.ClassFile.FieldType)).before args0 about1 = true := code_word (m := ⟨15, 0⟩) (meth := k15m0) (c := k15c0) (by decide +kernel) rfl rfl rfl (by decide +kernel)
set_option maxRecDepth 65536 in
theorem w_c15 : (Jvm.Cond.code ({ cls := "java/util/List", name := "of", desc := "(Ljava/lang/Object;)Ljava/util/List;" } : Jvm.MethodName) jdk_40_method_37_code (1 : Nat) (Option.some (Jvm.ClassFile.FieldType.object "java/util/List"))).before args0 about1 = true := code_word (m := ⟨19, 0⟩) (meth := k19m0) (c := k19c0) (by decide +kernel) rfl rfl rfl (by decide +kernel)
set_option maxRecDepth 65536 in
theorem w_c16 : (Jvm.Cond.code ({ cls := "java/util/ImmutableCollections$List12", name := "<init>", desc := "(Ljava/lang/Object;)V" } : Jvm.MethodName) jdk_44_method_1_code (2 : Nat) (Option.none : Option Jvm.ClassFile.FieldType)).before args0 about1 = true := code_word (m := ⟨24, 0⟩) (meth := k24m0) (c := k24c0) (by decide +kernel) rfl rfl rfl (by decide +kernel)
set_option maxRecDepth 65536 in
theorem w_c17 : (Jvm.Cond.code ({ cls := "java/util/ImmutableCollections$AbstractImmutableList", name := "<init>", desc := "()V" } : Jvm.MethodName) jdk_46_method_1_code (1 : Nat) (Option.none : Option Jvm.ClassFile.FieldType)).before args0 about1 = true := code_word (m := ⟨23, 0⟩) (meth := k23m0) (c := k23c0) (by decide +kernel) rfl rfl rfl (by decide +kernel)
set_option maxRecDepth 65536 in
theorem w_c18 : (Jvm.Cond.code ({ cls := "java/util/ImmutableCollections$AbstractImmutableCollection", name := "<init>", desc := "()V" } : Jvm.MethodName) jdk_47_method_1_code (1 : Nat) (Option.none : Option Jvm.ClassFile.FieldType)).before args0 about1 = true := code_word (m := ⟨21, 0⟩) (meth := k21m0) (c := k21c0) (by decide +kernel) rfl rfl rfl (by decide +kernel)
set_option maxRecDepth 65536 in
theorem w_c19 : (Jvm.Cond.code ({ cls := "java/util/AbstractCollection", name := "<init>", desc := "()V" } : Jvm.MethodName) jdk_22_method_1_code (1 : Nat) (Option.none : Option Jvm.ClassFile.FieldType)).before args0 about1 = true := code_word (m := ⟨20, 0⟩) (meth := k20m0) (c := k20c0) (by decide +kernel) rfl rfl rfl (by decide +kernel)
set_option maxRecDepth 65536 in
theorem w_c20 : (Jvm.Cond.code ({ cls := "java/util/Objects", name := "requireNonNull", desc := "(Ljava/lang/Object;)Ljava/lang/Object;" } : Jvm.MethodName) jdk_31_method_10_code (1 : Nat) (Option.some (Jvm.ClassFile.FieldType.object "java/lang/Object"))).before args0 about1 = true := code_word (m := ⟨13, 1⟩) (meth := k13m1) (c := k13c1) (by decide +kernel) rfl rfl rfl (by decide +kernel)
set_option maxRecDepth 65536 in
theorem w_c21 : (Jvm.Cond.code ({ cls := "com/example/hew/hew/Message$Field", name := "isMap", desc := "()Z" } : Jvm.MethodName) prog_28_method_10_code (1 : Nat) (Option.some Jvm.ClassFile.FieldType.boolean)).before args0 about1 = true := code_word (m := ⟨15, 1⟩) (meth := k15m1) (c := k15c1) (by decide +kernel) rfl rfl rfl (by decide +kernel)
set_option maxRecDepth 65536 in
theorem w_c22 : (Jvm.Cond.code ({ cls := "java/util/ArrayList", name := "<init>", desc := "()V" } : Jvm.MethodName) jdk_38_method_2_code (1 : Nat) (Option.none : Option Jvm.ClassFile.FieldType)).before args0 about1 = true := code_word (m := ⟨28, 0⟩) (meth := k28m0) (c := k28c0) (by decide +kernel) rfl rfl rfl (by decide +kernel)
set_option maxRecDepth 65536 in
theorem w_c23 : (Jvm.Cond.code ({ cls := "java/util/AbstractList", name := "<init>", desc := "()V" } : Jvm.MethodName) jdk_39_method_1_code (1 : Nat) (Option.none : Option Jvm.ClassFile.FieldType)).before args0 about1 = true := code_word (m := ⟨26, 0⟩) (meth := k26m0) (c := k26c0) (by decide +kernel) rfl rfl rfl (by decide +kernel)
set_option maxRecDepth 65536 in
theorem w_c24 : (Jvm.Cond.code ({ cls := "java/util/ArrayList", name := "add", desc := "(Ljava/lang/Object;)Z" } : Jvm.MethodName) jdk_38_method_25_code (2 : Nat) (Option.some Jvm.ClassFile.FieldType.boolean)).before args0 about1 = true := code_word (m := ⟨28, 4⟩) (meth := k28m4) (c := k28c4) (by decide +kernel) rfl rfl rfl (by decide +kernel)
set_option maxRecDepth 65536 in
theorem w_c25 : (Jvm.Cond.code ({ cls := "java/util/ArrayList", name := "add", desc := "(Ljava/lang/Object;[Ljava/lang/Object;I)V" } : Jvm.MethodName) jdk_38_method_24_code (4 : Nat) (Option.none : Option Jvm.ClassFile.FieldType)).before args0 about1 = true := code_word (m := ⟨28, 3⟩) (meth := k28m3) (c := k28c3) (by decide +kernel) rfl rfl rfl (by decide +kernel)
set_option maxRecDepth 65536 in
theorem w_c26 : (Jvm.Cond.code ({ cls := "java/util/ArrayList", name := "grow", desc := "()[Ljava/lang/Object;" } : Jvm.MethodName) jdk_38_method_7_code (1 : Nat) (Option.some (Jvm.ClassFile.FieldType.array (Jvm.ClassFile.FieldType.object "java/lang/Object")))).before args0 about1 = true := code_word (m := ⟨28, 2⟩) (meth := k28m2) (c := k28c2) (by decide +kernel) rfl rfl rfl (by decide +kernel)
set_option maxRecDepth 65536 in
theorem w_c27 : (Jvm.Cond.code ({ cls := "java/util/ArrayList", name := "grow", desc := "(I)[Ljava/lang/Object;" } : Jvm.MethodName) jdk_38_method_6_code (4 : Nat) (Option.some (Jvm.ClassFile.FieldType.array (Jvm.ClassFile.FieldType.object "java/lang/Object")))).before args0 about1 = true := code_word (m := ⟨28, 1⟩) (meth := k28m1) (c := k28c1) (by decide +kernel) rfl rfl rfl (by decide +kernel)
set_option maxRecDepth 65536 in
theorem w_c28 : (Jvm.Cond.code ({ cls := "java/lang/Math", name := "max", desc := "(II)I" } : Jvm.MethodName) jdk_29_method_65_code (2 : Nat) (Option.some Jvm.ClassFile.FieldType.int)).before args0 about1 = true := code_word (m := ⟨29, 1⟩) (meth := k29m1) (c := k29c1) (by decide +kernel) rfl rfl rfl (by decide +kernel)
def codes1 : List Jvm.Cond := [Jvm.Cond.code x code maxLocals ret, Jvm.Cond.code ({ cls := "com/example/hew/hew/FieldIsMapPinLaw", name := "kindOf", desc := "(I)Lcom/example/hew/hew/Message$Field$Kind;" } : Jvm.MethodName) method_2_code (2 : Nat) (Option.some (Jvm.ClassFile.FieldType.object "com/example/hew/hew/Message$Field$Kind")), Jvm.Cond.code ({ cls := "java/lang/String", name := "<init>", desc := "([C)V" } : Jvm.MethodName) jdk_42_method_3_code (2 : Nat) (Option.none : Option Jvm.ClassFile.FieldType), Jvm.Cond.code ({ cls := "java/lang/String", name := "<init>", desc := "([CIILjava/lang/Void;)V" } : Jvm.MethodName) jdk_42_method_149_code (6 : Nat) (Option.none : Option Jvm.ClassFile.FieldType), Jvm.Cond.code ({ cls := "java/lang/Object", name := "<init>", desc := "()V" } : Jvm.MethodName) object_method_1_code (1 : Nat) (Option.none : Option Jvm.ClassFile.FieldType), Jvm.Cond.code ({ cls := "java/lang/StringUTF16", name := "compress", desc := "([CII)[B" } : Jvm.MethodName) jdk_52_method_16_code (6 : Nat) (Option.some (Jvm.ClassFile.FieldType.array Jvm.ClassFile.FieldType.byte)), Jvm.Cond.code ({ cls := "java/lang/StringUTF16", name := "compress", desc := "([CI[BII)I" } : Jvm.MethodName) jdk_52_method_21_code (7 : Nat) (Option.some Jvm.ClassFile.FieldType.int), Jvm.Cond.code ({ cls := "java/lang/StringUTF16", name := "coderFromArrayLen", desc := "([BI)B" } : Jvm.MethodName) jdk_52_method_15_code (2 : Nat) (Option.some Jvm.ClassFile.FieldType.byte), Jvm.Cond.code ({ cls := "java/lang/String", name := "valueOf", desc := "(C)Ljava/lang/String;" } : Jvm.MethodName) jdk_42_method_139_code (1 : Nat) (Option.some (Jvm.ClassFile.FieldType.object "java/lang/String")), Jvm.Cond.code ({ cls := "java/lang/StringLatin1", name := "canEncode", desc := "(C)Z" } : Jvm.MethodName) jdk_43_method_3_code (1 : Nat) (Option.some Jvm.ClassFile.FieldType.boolean), Jvm.Cond.code ({ cls := "java/lang/StringLatin1", name := "toBytes", desc := "(C)[B" } : Jvm.MethodName) jdk_43_method_46_code (1 : Nat) (Option.some (Jvm.ClassFile.FieldType.array Jvm.ClassFile.FieldType.byte)), Jvm.Cond.code ({ cls := "java/lang/String", name := "<init>", desc := "([BB)V" } : Jvm.MethodName) jdk_42_method_151_code (3 : Nat) (Option.none : Option Jvm.ClassFile.FieldType), Jvm.Cond.code ({ cls := "com/example/hew/hew/Place", name := "<init>", desc := "(Ljava/lang/String;II)V" } : Jvm.MethodName) prog_39_method_1_code (4 : Nat) (Option.none : Option Jvm.ClassFile.FieldType), Jvm.Cond.code ({ cls := "java/util/Objects", name := "requireNonNull", desc := "(Ljava/lang/Object;Ljava/lang/String;)Ljava/lang/Object;" } : Jvm.MethodName) jdk_31_method_11_code (2 : Nat) (Option.some (Jvm.ClassFile.FieldType.object "java/lang/Object")), Jvm.Cond.code ({ cls := "com/example/hew/hew/Message$Field", name := "<init>", desc := "(Ljava/lang/String;Ljava/lang/String;Lcom/example/hew/hew/Message$Field$Kind;ZLjava/util/List;Lcom/example/hew/hew/Place;)V" } : Jvm.MethodName) prog_28_method_1_code (7 : Nat) (Option.none : Option Jvm.ClassFile.FieldType), Jvm.Cond.code ({ cls := "java/util/List", name := "of", desc := "(Ljava/lang/Object;)Ljava/util/List;" } : Jvm.MethodName) jdk_40_method_37_code (1 : Nat) (Option.some (Jvm.ClassFile.FieldType.object "java/util/List")), Jvm.Cond.code ({ cls := "java/util/ImmutableCollections$List12", name := "<init>", desc := "(Ljava/lang/Object;)V" } : Jvm.MethodName) jdk_44_method_1_code (2 : Nat) (Option.none : Option Jvm.ClassFile.FieldType), Jvm.Cond.code ({ cls := "java/util/ImmutableCollections$AbstractImmutableList", name := "<init>", desc := "()V" } : Jvm.MethodName) jdk_46_method_1_code (1 : Nat) (Option.none : Option Jvm.ClassFile.FieldType), Jvm.Cond.code ({ cls := "java/util/ImmutableCollections$AbstractImmutableCollection", name := "<init>", desc := "()V" } : Jvm.MethodName) jdk_47_method_1_code (1 : Nat) (Option.none : Option Jvm.ClassFile.FieldType), Jvm.Cond.code ({ cls := "java/util/AbstractCollection", name := "<init>", desc := "()V" } : Jvm.MethodName) jdk_22_method_1_code (1 : Nat) (Option.none : Option Jvm.ClassFile.FieldType), Jvm.Cond.code ({ cls := "java/util/Objects", name := "requireNonNull", desc := "(Ljava/lang/Object;)Ljava/lang/Object;" } : Jvm.MethodName) jdk_31_method_10_code (1 : Nat) (Option.some (Jvm.ClassFile.FieldType.object "java/lang/Object")), Jvm.Cond.code ({ cls := "com/example/hew/hew/Message$Field", name := "isMap", desc := "()Z" } : Jvm.MethodName) prog_28_method_10_code (1 : Nat) (Option.some Jvm.ClassFile.FieldType.boolean), Jvm.Cond.code ({ cls := "java/util/ArrayList", name := "<init>", desc := "()V" } : Jvm.MethodName) jdk_38_method_2_code (1 : Nat) (Option.none : Option Jvm.ClassFile.FieldType), Jvm.Cond.code ({ cls := "java/util/AbstractList", name := "<init>", desc := "()V" } : Jvm.MethodName) jdk_39_method_1_code (1 : Nat) (Option.none : Option Jvm.ClassFile.FieldType), Jvm.Cond.code ({ cls := "java/util/ArrayList", name := "add", desc := "(Ljava/lang/Object;)Z" } : Jvm.MethodName) jdk_38_method_25_code (2 : Nat) (Option.some Jvm.ClassFile.FieldType.boolean), Jvm.Cond.code ({ cls := "java/util/ArrayList", name := "add", desc := "(Ljava/lang/Object;[Ljava/lang/Object;I)V" } : Jvm.MethodName) jdk_38_method_24_code (4 : Nat) (Option.none : Option Jvm.ClassFile.FieldType), Jvm.Cond.code ({ cls := "java/util/ArrayList", name := "grow", desc := "()[Ljava/lang/Object;" } : Jvm.MethodName) jdk_38_method_7_code (1 : Nat) (Option.some (Jvm.ClassFile.FieldType.array (Jvm.ClassFile.FieldType.object "java/lang/Object"))), Jvm.Cond.code ({ cls := "java/util/ArrayList", name := "grow", desc := "(I)[Ljava/lang/Object;" } : Jvm.MethodName) jdk_38_method_6_code (4 : Nat) (Option.some (Jvm.ClassFile.FieldType.array (Jvm.ClassFile.FieldType.object "java/lang/Object"))), Jvm.Cond.code ({ cls := "java/lang/Math", name := "max", desc := "(II)I" } : Jvm.MethodName) jdk_29_method_65_code (2 : Nat) (Option.some Jvm.ClassFile.FieldType.int)]
set_option maxRecDepth 65536 in
theorem codes_eq : words1.filter isCode = codes1 := rfl
theorem w_codes : ∀ c ∈ words1.filter isCode, c.before args0 about1 = true := by
  rw [codes_eq]
  intro c hc
  simp only [codes1, List.mem_cons, List.not_mem_nil, or_false] at hc
  rcases hc with rfl | rfl | rfl | rfl | rfl | rfl | rfl | rfl | rfl | rfl | rfl | rfl | rfl | rfl | rfl | rfl | rfl | rfl | rfl | rfl | rfl | rfl | rfl | rfl | rfl | rfl | rfl | rfl | rfl
  · exact w_c0
  · exact w_c1
  · exact w_c2
  · exact w_c3
  · exact w_c4
  · exact w_c5
  · exact w_c6
  · exact w_c7
  · exact w_c8
  · exact w_c9
  · exact w_c10
  · exact w_c11
  · exact w_c12
  · exact w_c13
  · exact w_c14
  · exact w_c15
  · exact w_c16
  · exact w_c17
  · exact w_c18
  · exact w_c19
  · exact w_c20
  · exact w_c21
  · exact w_c22
  · exact w_c23
  · exact w_c24
  · exact w_c25
  · exact w_c26
  · exact w_c27
  · exact w_c28
set_option maxRecDepth 65536 in
theorem w_t1 : (words1.take 24).all (fun c => isCode c || c.before args0 about1) = true := by decide +kernel
set_option maxRecDepth 65536 in
theorem w_t2 : ((words1.drop 24).take 24).all (fun c => isCode c || c.before args0 about1) = true := by decide +kernel
set_option maxRecDepth 65536 in
theorem w_t3 : (((words1.drop 24).drop 24).take 24).all (fun c => isCode c || c.before args0 about1) = true := by decide +kernel
set_option maxRecDepth 65536 in
theorem w_t4 : ((((words1.drop 24).drop 24).drop 24).take 24).all (fun c => isCode c || c.before args0 about1) = true := by decide +kernel
set_option maxRecDepth 65536 in
theorem w_t5 : (((((words1.drop 24).drop 24).drop 24).drop 24).take 24).all (fun c => isCode c || c.before args0 about1) = true := by decide +kernel
set_option maxRecDepth 65536 in
theorem w_t6 : ((((((words1.drop 24).drop 24).drop 24).drop 24).drop 24).take 24).all (fun c => isCode c || c.before args0 about1) = true := by decide +kernel
set_option maxRecDepth 65536 in
theorem w_t7 : (((((((words1.drop 24).drop 24).drop 24).drop 24).drop 24).drop 24).take 24).all (fun c => isCode c || c.before args0 about1) = true := by decide +kernel
set_option maxRecDepth 65536 in
theorem w_t8 : ((((((((words1.drop 24).drop 24).drop 24).drop 24).drop 24).drop 24).drop 24).take 24).all (fun c => isCode c || c.before args0 about1) = true := by decide +kernel
set_option maxRecDepth 65536 in
theorem w_t9 : ((((((((words1.drop 24).drop 24).drop 24).drop 24).drop 24).drop 24).drop 24).drop 24).all (fun c => isCode c || c.before args0 about1) = true := by decide +kernel
theorem w_tables : (allAtoms (Jvm.Cond.code x code maxLocals ret :: tables_1)).before args0 about1 = true := by
  rw [allAtoms_all]
  show words1.all (fun c => c.before args0 about1) = true
  refine all_split ?_ w_codes
  rw [← List.take_append_drop 24 words1, List.all_append, w_t1, ← List.take_append_drop 24 (words1.drop 24), List.all_append, w_t2, ← List.take_append_drop 24 ((words1.drop 24).drop 24), List.all_append, w_t3, ← List.take_append_drop 24 (((words1.drop 24).drop 24).drop 24), List.all_append, w_t4, ← List.take_append_drop 24 ((((words1.drop 24).drop 24).drop 24).drop 24), List.all_append, w_t5, ← List.take_append_drop 24 (((((words1.drop 24).drop 24).drop 24).drop 24).drop 24), List.all_append, w_t6, ← List.take_append_drop 24 ((((((words1.drop 24).drop 24).drop 24).drop 24).drop 24).drop 24), List.all_append, w_t7, ← List.take_append_drop 24 (((((((words1.drop 24).drop 24).drop 24).drop 24).drop 24).drop 24).drop 24), List.all_append, w_t8, w_t9]
  rfl
set_option maxRecDepth 65536 in
theorem w_rest : rest_1_c.before args0 about1 = true := by decide +kernel
set_option maxRecDepth 65536 in
theorem w_case : (Jvm.Cond.and given_1 narrow_1).before args0 about1 = true := by decide +kernel
theorem w_applies : (headSpec (Jvm.Cond.code x code maxLocals ret :: tables_1) room_1).applies x e0.platform about1 = true :=
  (Spec.applies_iff w_frames).mpr ⟨w_running, w_runnable, w_alone, w_named, w_hears, w_ripe, w_room, w_tables⟩
theorem atStart : AtStart classFile x code maxLocals ret World_1 tables_1 room_1 Calls_1 rest_1 Pre_1 launch0 p0 e0 about1 theMethod args0 below0 :=
  ⟨lists_1, trivial, launch0.admits_env _ _ _, launch0.least_env, fairChoices_fair.cas, fairChoices_fair.clock, w_frames, w_args, w_heap, w_applies, trivial, w_rest, w_case⟩
end start1
theorem witness_1 : WitnessClaimed_1 := ⟨start1.p0, start1.e0, start1.about1, start1.theMethod, start1.args0, start1.below0, start1.atStart⟩
end Jvm.Pilot.@@N@@
