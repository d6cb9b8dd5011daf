import JvmDerived
import JvmDerived.Pilot.@@N@@Statement
import JvmDerived.Pilot.@@N@@Code
set_option linter.unusedVariables false
set_option linter.unusedSimpArgs false
/- laws to paste: Road.backV (cut by pick.py; bodies as the Statement names them) -/
namespace Jvm.Pilot.@@N@@
namespace StrChars
open Jvm Sem ClassFile Op Lib Jvm.Stand Jvm.Free.XT Jvm.Free.ALB Jvm.Free.JM Jvm.Free
open Jvm.Lib.Cold (StaticIs)
/-- a char array whose places are chars -/
def Ch (a : Addr) (A : Cell) (U : State) : Prop := Arr .char a A U ∧ Typed .char A
theorem Ch.mv {a : Addr} {A : Cell} {U U' : State} (h : Ch a A U) (hal : U.vm.Alike U'.vm) (hh : U'.heap = U.heap) : Ch a A U' := ⟨h.1.mv hal hh, h.2⟩
theorem Ch.keep {a : Addr} {A : Cell} {U U' : State} (h : Ch a A U) (hal : U.vm.Alike U'.vm) (hk : U'.heap[a]? = some A) : Ch a A U' := ⟨h.1.keep hal hk, h.2⟩
/-- what place i of a char[]'s cell holds -/
def cv (A : Cell) (i : Nat) : Int32 := match A.slots[i]? with | some (.int x) => x | _ => 0
theorem Ch.get {a : Addr} {A : Cell} {U : State} (h : Ch a A U) {i : Nat} (hi : i < A.slots.size) : A.slots[i]? = some (.int (cv A i)) := by
  have e := Array.getElem?_eq_getElem hi
  have f := h.2 i _ e
  unfold cv; rw [e]
  generalize A.slots[i] = v at f
  cases v <;> simp [fits] at f ⊢
/-- the byte that i2b leaves of a char -/
def lo8 (x : Int32) : Int32 := x.toInt8.toInt32
theorem fits_lo8 (y : Int32) : fits .byte (.int (lo8 y)) = true := by
  have h1 := y.toInt8.le_toInt
  have h2 := y.toInt8.toInt_lt
  simp only [lo8, fits, Bool.and_eq_true, decide_eq_true_eq, Int32.le_iff_toInt_le, Int8.toInt_toInt32, show (-128 : Int32).toInt = -128 from by decide, show (127 : Int32).toInt = 127 from by decide]
  omega
/-- A' is A but that each place j of lo .. hi - 1 holds f j -/
def Laid (A A' : Cell) (lo hi : Nat) (f : Nat → Value) : Prop := A'.cls = A.cls ∧ A'.vm = A.vm ∧ A'.slots.size = A.slots.size ∧ ∀ i, A'.slots[i]? = if lo ≤ i ∧ i < hi then some (f i) else A.slots[i]?
theorem Laid.zero (A : Cell) (lo : Nat) (f : Nat → Value) : Laid A A lo (lo + 0) f := ⟨rfl, rfl, rfl, fun i => by rw [if_neg (by omega)]⟩
theorem Laid.step {A Ak : Cell} {lo k : Nat} {f : Nat → Value} {v : Value} (h : Laid A Ak lo k f) (hlo : lo ≤ k) (hk : k < Ak.slots.size) (hv : v = f k) : Laid A (Ak.setSlot k v) lo (k + 1) f := by
  refine ⟨h.1, h.2.1, by simpa [Cell.setSlot] using h.2.2.1, fun i => ?_⟩
  by_cases e : k = i
  · subst e; rw [Cell.slots_setSlot_self v hk, if_pos (by omega), hv]
  · rw [Cell.slots_setSlot_ne v e, h.2.2.2 i]
    by_cases q : lo ≤ i ∧ i < k
    · rw [if_pos q, if_pos (by omega)]
    · rw [if_neg q, if_neg (by omega)]
def U16 : String := "java/lang/StringUTF16"
namespace Cmp5
def yN : MethodName := ⟨"java/lang/StringUTF16", "compress", "([CI[BII)I"⟩
abbrev yB : ByteArray := jdk_52_method_21_code
theorem d0 : decode yB 0 = .ok (.iconst 0, 1) := by decide +kernel
theorem d1 : decode yB 1 = .ok (.istore 5, 2) := by decide +kernel
theorem d3 : decode yB 3 = .ok (.iload 5, 2) := by decide +kernel
theorem d5 : decode yB 5 = .ok (.iload 4, 2) := by decide +kernel
theorem d7 : decode yB 7 = .ok (.if_icmp (.ge) 37, 3) := by decide +kernel
theorem d10 : decode yB 10 = .ok (.aload_n 0, 1) := by decide +kernel
theorem d11 : decode yB 11 = .ok (.iload_n 1, 1) := by decide +kernel
theorem d12 : decode yB 12 = .ok (.caload, 1) := by decide +kernel
theorem d13 : decode yB 13 = .ok (.istore 6, 2) := by decide +kernel
theorem d15 : decode yB 15 = .ok (.iload 6, 2) := by decide +kernel
theorem d17 : decode yB 17 = .ok (.sipush 255, 3) := by decide +kernel
theorem d20 : decode yB 20 = .ok (.if_icmp (.le) 6, 3) := by decide +kernel
theorem d26 : decode yB 26 = .ok (.aload_n 2, 1) := by decide +kernel
theorem d27 : decode yB 27 = .ok (.iload_n 3, 1) := by decide +kernel
theorem d28 : decode yB 28 = .ok (.iload 6, 2) := by decide +kernel
theorem d30 : decode yB 30 = .ok (.i2b, 1) := by decide +kernel
theorem d31 : decode yB 31 = .ok (.bastore, 1) := by decide +kernel
theorem d32 : decode yB 32 = .ok (.iinc 1 1, 3) := by decide +kernel
theorem d35 : decode yB 35 = .ok (.iinc 3 1, 3) := by decide +kernel
theorem d38 : decode yB 38 = .ok (.iinc 5 1, 3) := by decide +kernel
theorem d41 : decode yB 41 = .ok (.goto (-38), 3) := by decide +kernel
theorem d44 : decode yB 44 = .ok (.iload 4, 2) := by decide +kernel
theorem d46 : decode yB 46 = .ok (.ireturn, 1) := by decide +kernel
def site : List Cond := []
def tab : Cond := tabOf yN yB 7 (some .int) site
def P (b : Addr) (A : Cell) (d : Addr) (B : Cell) (o q len : Nat) (args : Array Value) (s : State) : Prop := args = #[.ref b, .int (Int32.ofNat o), .ref d, .int (Int32.ofNat q), .int (Int32.ofNat len)] ∧ Ch b A s ∧ Arr .byte d B s ∧ b ≠ d ∧ o + len ≤ A.slots.size ∧ q + len ≤ B.slots.size ∧ ∀ i, i < len → ¬ 255 < cv A (o + i)
def E (b : Addr) (A : Cell) (d : Addr) (B : Cell) (o q len : Nat) (r : Option Value) (s u : State) : Prop := r = some (.int (Int32.ofNat len)) ∧ ∃ B', Put d B' s u ∧ Laid B B' q (q + len) (fun j => Value.int (lo8 (cv A (o + (j - q)))))
/-- no char of the range above 255: len; the places written hold each char's low byte -/
theorem law (l : Launch) (b : Addr) (A : Cell) (d : Addr) (B : Cell) (o q len : Nat) : Law l yN 5 5 0 0 yB 7 (some .int) site (P b A d B o q len) (E b A d B o q len) (copyLocs d q len) 0 0 := by
  refine Law.of_walk (plainFor_of_name (by decide +kernel)) (by decide +kernel) (by decide +kernel) (by decide) (fun _ _ h => by rw [h.1]; rfl) (fun _ U U' hal hh h => ⟨h.1, h.2.1.mv hal hh, h.2.2.1.mv hal hh, h.2.2.2⟩) (fun r U U' V V' h1 hal h2 h => ⟨h.1, h.2.elim fun B' q => ⟨B', q.1.mv h1 h2, q.2⟩⟩) ?_
  intro p e s m args below meth c s₁ X0 hexec hbytes hml hret hlk hnm hown hh0 W hP
  obtain ⟨rfl, hA, hB, hne, l1, l2, hp⟩ := hP
  have c1 : Steps p.tables e below (s₁.setTop (entryFrame m #[.ref b, .int (Int32.ofNat o), .ref d, .int (Int32.ofNat q), .int (Int32.ofNat len)] 7)) (s₁.setTop (mkF m 0 #[.val (.ref b), .val (.int (Int32.ofNat o)), .val (.ref d), .val (.int (Int32.ofNat q)), .val (.int (Int32.ofNat len)), .unset, .unset] [])) := entry rfl
  have hA0 := hA.1.mv X0.warmed.alike hh0
  have hB0 := hB.mv X0.warmed.alike hh0
  have a31 := hA.1.2.2.2
  have c2 : Steps p.tables e below (s₁.setTop (entryFrame m #[.ref b, .int (Int32.ofNat o), .ref d, .int (Int32.ofNat q), .int (Int32.ofNat len)] 7)) (s₁.setTop (mkF m 3 #[.val (.ref b), .val (.int (Int32.ofNat o)), .val (.ref d), .val (.int (Int32.ofNat q)), .val (.int (Int32.ofNat len)), .val (.int 0), .unset] [])) := c1.trans (by
    refine iconstV X0.here hexec rfl 0 (hb hbytes d0) (by decide) ?_
    refine XS.istore X0.here hexec rfl (hb hbytes d1) rfl rfl ?_
    exact Steps.refl _)
  have loop : ∀ (r i : Nat), i + r = len → ∀ (z : Slot), (z = .unset ∨ ∃ w, z = .val w ∧ w.category = 1) → ∀ (Tl : State) (Bk : Cell), Stand p l e { frames := 0, locals := 0, cells := 0, slots := 0 } s m #[.ref b, .int (Int32.ofNat o), .ref d, .int (Int32.ofNat q), .int (Int32.ofNat len)] below meth c Tl ([] ++ copyLocs d q i) 0 0 → Put d Bk s₁ Tl → Laid B Bk q (q + i) (fun j => Value.int (lo8 (cv A (o + (j - q))))) →
      Steps p.tables e below (s₁.setTop (entryFrame m #[.ref b, .int (Int32.ofNat o), .ref d, .int (Int32.ofNat q), .int (Int32.ofNat len)] 7)) (Tl.setTop (mkF m 3 #[.val (.ref b), .val (.int (Int32.ofNat (o + i))), .val (.ref d), .val (.int (Int32.ofNat (q + i))), .val (.int (Int32.ofNat len)), .val (.int (Int32.ofNat i)), z] [])) → ∃ (T' : State) (B' : Cell) (z' : Slot), Stand p l e { frames := 0, locals := 0, cells := 0, slots := 0 } s m #[.ref b, .int (Int32.ofNat o), .ref d, .int (Int32.ofNat q), .int (Int32.ofNat len)] below meth c T' ([] ++ copyLocs d q len) 0 0 ∧ Put d B' s₁ T' ∧ Laid B B' q (q + len) (fun j => Value.int (lo8 (cv A (o + (j - q))))) ∧
      Steps p.tables e below (s₁.setTop (entryFrame m #[.ref b, .int (Int32.ofNat o), .ref d, .int (Int32.ofNat q), .int (Int32.ofNat len)] 7)) (T'.setTop (mkF m 3 #[.val (.ref b), .val (.int (Int32.ofNat (o + len))), .val (.ref d), .val (.int (Int32.ofNat (q + len))), .val (.int (Int32.ofNat len)), .val (.int (Int32.ofNat len)), z'] [])) := by
    intro r
    induction r with
    | zero =>
      intro i hi z hz Tl Bk Xl pl fl cl
      have hil : i = len := by omega
      rw [hil] at Xl fl cl
      exact ⟨Tl, Bk, z, Xl, pl, fl, cl⟩
    | succ r ih =>
      intro i hi z hz Tl Bk Xl pl fl cl
      have all := X0.warmed.alike.symm.trans Xl.warmed.alike
      have hAl := hA0.keep all (pl.other hne hA0.1)
      have hBk := hB0.like all pl.1 fl.1 fl.2.1 fl.2.2.1
      have hlt : q + i < Bk.slots.size := by rw [fl.2.2.1]; omega
      have c3 : Steps p.tables e below (s₁.setTop (entryFrame m #[.ref b, .int (Int32.ofNat o), .ref d, .int (Int32.ofNat q), .int (Int32.ofNat len)] 7)) (Tl.setTop (mkF m 12 #[.val (.ref b), .val (.int (Int32.ofNat (o + i))), .val (.ref d), .val (.int (Int32.ofNat (q + i))), .val (.int (Int32.ofNat len)), .val (.int (Int32.ofNat i)), z] [.int (Int32.ofNat (o + i)), .ref b])) := cl.trans (by
        refine XS.iload Xl.here hexec rfl (hb hbytes d3) rfl ?_
        refine XS.iload Xl.here hexec rfl (hb hbytes d5) rfl ?_
        refine XS.icmpNo Xl.here hexec rfl (hb hbytes d7) rfl (ii_ge_f (lt32 (by omega) (by omega))) ?_
        refine XS.aloadN Xl.here hexec rfl (hb hbytes d10) rfl rfl ?_
        refine XS.iloadN Xl.here hexec rfl (hb hbytes d11) rfl ?_
        exact Steps.refl _)
      have c4 : Steps p.tables e below (s₁.setTop (entryFrame m #[.ref b, .int (Int32.ofNat o), .ref d, .int (Int32.ofNat q), .int (Int32.ofNat len)] 7)) (Tl.setTop (mkF m 13 #[.val (.ref b), .val (.int (Int32.ofNat (o + i))), .val (.ref d), .val (.int (Int32.ofNat (q + i))), .val (.int (Int32.ofNat len)), .val (.int (Int32.ofNat i)), z] [.int (cv A (o + i))])) := c3.trans (by
        refine Xl.aget hexec hAl rfl (hA.get (i := o + i) (by omega)) rfl rfl (hb hbytes d12) ?_
        exact Steps.refl _)
      have c5 : Steps p.tables e below (s₁.setTop (entryFrame m #[.ref b, .int (Int32.ofNat o), .ref d, .int (Int32.ofNat q), .int (Int32.ofNat len)] 7)) (Tl.setTop (mkF m 15 #[.val (.ref b), .val (.int (Int32.ofNat (o + i))), .val (.ref d), .val (.int (Int32.ofNat (q + i))), .val (.int (Int32.ofNat len)), .val (.int (Int32.ofNat i)), .val (.int (cv A (o + i)))] [])) := c4.trans (by
        refine XS.istoreS Xl.here hexec rfl (hb hbytes d13) rfl rfl hz ?_
        exact Steps.refl _)
      have c6 : Steps p.tables e below (s₁.setTop (entryFrame m #[.ref b, .int (Int32.ofNat o), .ref d, .int (Int32.ofNat q), .int (Int32.ofNat len)] 7)) (Tl.setTop (mkF m 31 #[.val (.ref b), .val (.int (Int32.ofNat (o + i))), .val (.ref d), .val (.int (Int32.ofNat (q + i))), .val (.int (Int32.ofNat len)), .val (.int (Int32.ofNat i)), .val (.int (cv A (o + i)))] [.int (lo8 (cv A (o + i))), .int (Int32.ofNat (q + i)), .ref d])) := c5.trans (by
        refine XS.iload Xl.here hexec rfl (hb hbytes d15) rfl ?_
        refine sipushV Xl.here hexec rfl 255 (hb hbytes d17) (by decide) ?_
        refine XS.icmpYes Xl.here hexec rfl (pc0 := 20) rfl (hb hbytes d20) rfl (ii_le_t (hp i (by omega))) (by decide) rfl ?_
        refine XS.aloadN Xl.here hexec rfl (hb hbytes d26) rfl rfl ?_
        refine XS.iloadN Xl.here hexec rfl (hb hbytes d27) rfl ?_
        refine XS.iload Xl.here hexec rfl (hb hbytes d28) rfl ?_
        refine i2b Xl.here hexec rfl (hb hbytes d30) rfl ?_
        exact Steps.refl _)
      obtain ⟨T7, X7, p7, st7⟩ := Xl.aput hexec hBk rfl hlt rfl (fits_lo8 (cv A (o + i))) (g := (mkF m 31 #[.val (.ref b), .val (.int (Int32.ofNat (o + i))), .val (.ref d), .val (.int (Int32.ofNat (q + i))), .val (.int (Int32.ofNat len)), .val (.int (Int32.ofNat i)), .val (.int (cv A (o + i)))] [.int (lo8 (cv A (o + i))), .int (Int32.ofNat (q + i)), .ref d])) rfl (rest := []) rfl (hb hbytes d31)
      have c8 : Steps p.tables e below (s₁.setTop (entryFrame m #[.ref b, .int (Int32.ofNat o), .ref d, .int (Int32.ofNat q), .int (Int32.ofNat len)] 7)) (T7.setTop (mkF m 32 #[.val (.ref b), .val (.int (Int32.ofNat (o + i))), .val (.ref d), .val (.int (Int32.ofNat (q + i))), .val (.int (Int32.ofNat len)), .val (.int (Int32.ofNat i)), .val (.int (cv A (o + i)))] [])) := c6.trans (st7 _ (Steps.refl _))
      have c9 : Steps p.tables e below (s₁.setTop (entryFrame m #[.ref b, .int (Int32.ofNat o), .ref d, .int (Int32.ofNat q), .int (Int32.ofNat len)] 7)) (T7.setTop (mkF m 3 #[.val (.ref b), .val (.int (Int32.ofNat (o + i) + 1)), .val (.ref d), .val (.int (Int32.ofNat (q + i) + 1)), .val (.int (Int32.ofNat len)), .val (.int (Int32.ofNat i + 1)), .val (.int (cv A (o + i)))] [])) := c8.trans (by
        refine iincV X7.here hexec rfl 1 (hb hbytes d32) (by decide) rfl rfl ?_
        refine iincV X7.here hexec rfl 1 (hb hbytes d35) (by decide) rfl rfl ?_
        refine iincV X7.here hexec rfl 1 (hb hbytes d38) (by decide) rfl rfl ?_
        refine XS.goto X7.here hexec rfl (pc0 := 41) rfl (hb hbytes d41) (by decide) rfl ?_
        exact Steps.refl _)
      have c10 : Steps p.tables e below (s₁.setTop (entryFrame m #[.ref b, .int (Int32.ofNat o), .ref d, .int (Int32.ofNat q), .int (Int32.ofNat len)] 7)) (T7.setTop (mkF m 3 #[.val (.ref b), .val (.int (Int32.ofNat (o + (i + 1)))), .val (.ref d), .val (.int (Int32.ofNat (q + (i + 1)))), .val (.int (Int32.ofNat len)), .val (.int (Int32.ofNat (i + 1))), .val (.int (cv A (o + i)))] [])) := by
        have := c9
        rw [succ32, succ32, succ32] at this
        exact this
      exact ih (i + 1) (by omega) _ (Or.inr ⟨_, rfl, rfl⟩) T7 _ (by rw [copyLocs_step, ← List.append_assoc]; exact X7) (pl.trans p7) (fl.step (by omega) hlt (by simp)) c10
  obtain ⟨T9, B9, z9, X9, p9, f9, g9⟩ := loop len 0 (by omega) .unset (Or.inl rfl) s₁ B (by simpa [copyLocs] using X0) ⟨hB0.1, fun _ _ => rfl, rfl⟩ (Laid.zero _ _ _) c2
  have c11 : Steps p.tables e below (s₁.setTop (entryFrame m #[.ref b, .int (Int32.ofNat o), .ref d, .int (Int32.ofNat q), .int (Int32.ofNat len)] 7)) (T9.setTop (mkF m 46 #[.val (.ref b), .val (.int (Int32.ofNat (o + len))), .val (.ref d), .val (.int (Int32.ofNat (q + len))), .val (.int (Int32.ofNat len)), .val (.int (Int32.ofNat len)), z9] [.int (Int32.ofNat len)])) := g9.trans (by
    refine XS.iload X9.here hexec rfl (hb hbytes d3) rfl ?_
    refine XS.iload X9.here hexec rfl (hb hbytes d5) rfl ?_
    refine XS.icmpYes X9.here hexec rfl (pc0 := 7) rfl (hb hbytes d7) rfl (ii_ge_t (nlt32 (by omega) (Nat.le_refl _))) (by decide) rfl ?_
    refine XS.iload X9.here hexec rfl (hb hbytes d44) rfl ?_
    exact Steps.refl _)
  exact ⟨T9, some (.int (Int32.ofNat len)), _, _, _, X9, by simp, rfl, rfl, (fun h => by cases h), ⟨rfl, B9, p9.from hh0, f9⟩, fun fs hl => c11.trans (X9.ireturnOut hexec hret rfl (Or.inl rfl) (hb hbytes d46) hl)⟩
end Cmp5
namespace Cmp3
def yN : MethodName := ⟨"java/lang/StringUTF16", "compress", "([CII)[B"⟩
abbrev yB : ByteArray := jdk_52_method_16_code
theorem d0 : decode yB 0 = .ok (.iload_n 2, 1) := by decide +kernel
theorem d1 : decode yB 1 = .ok (.newarray .byte, 2) := by decide +kernel
theorem d3 : decode yB 3 = .ok (.astore_n 3, 1) := by decide +kernel
theorem d4 : decode yB 4 = .ok (.aload_n 0, 1) := by decide +kernel
theorem d5 : decode yB 5 = .ok (.iload_n 1, 1) := by decide +kernel
theorem d6 : decode yB 6 = .ok (.aload_n 3, 1) := by decide +kernel
theorem d7 : decode yB 7 = .ok (.iconst 0, 1) := by decide +kernel
theorem d8 : decode yB 8 = .ok (.iload_n 2, 1) := by decide +kernel
theorem d9 : decode yB 9 = .ok (.invokestatic 115, 3) := by decide +kernel
theorem d12 : decode yB 12 = .ok (.istore 4, 2) := by decide +kernel
theorem d14 : decode yB 14 = .ok (.iload 4, 2) := by decide +kernel
theorem d16 : decode yB 16 = .ok (.iload_n 2, 1) := by decide +kernel
theorem d17 : decode yB 17 = .ok (.if_icmp (.eq) 40, 3) := by decide +kernel
theorem d57 : decode yB 57 = .ok (.aload_n 3, 1) := by decide +kernel
theorem d58 : decode yB 58 = .ok (.areturn, 1) := by decide +kernel
def site : List Cond := [.arrayClass .byte, Cmp5.tab] ++ staticW U16 115 Cmp5.yN
def tab : Cond := tabOf yN yB 6 (some (.array .byte)) site
def P (b : Addr) (A : Cell) (o len : Nat) (args : Array Value) (s : State) : Prop := args = #[.ref b, .int (Int32.ofNat o), .int (Int32.ofNat len)] ∧ Ch b A s ∧ o + len ≤ A.slots.size ∧ len ≤ 536870912 ∧ ∀ i, i < len → ¬ 255 < cv A (o + i)
def E (b : Addr) (A : Cell) (o len : Nat) (r : Option Value) (s u : State) : Prop := NewArr .byte "[B" len (fun j => .int (lo8 (cv A (o + j)))) r s u ∧ u.heap.size = s.heap.size + 1
/-- no char of the range above 255: a new byte[] of their low bytes -/
theorem law (l : Launch) (b : Addr) (A : Cell) (o len : Nat) : Law l yN 3 3 1 18 yB 6 (some (.array .byte)) site (P b A o len) (E b A o len) [] 1 len := by
  refine Law.of_walk (plainFor_of_name (by decide +kernel)) (by decide +kernel) (by decide +kernel) (by decide) (fun _ _ h => by rw [h.1]; rfl) (fun _ U U' hal hh h => ⟨h.1, h.2.1.mv hal hh, h.2.2⟩) (fun r U U' V V' h1 hal h2 h => ⟨NewArr.mv r U U' V V' h1 hal h2 h.1, by rw [h1, h2]; exact h.2⟩) ?_
  intro p e s m args below meth c s₁ X0 hexec hbytes hml hret hlk hnm hown hh0 W hP
  obtain ⟨rfl, hA, l1, l2, hp⟩ := hP
  have a31 := hA.1.2.2.2
  have c1 : Steps p.tables e below (s₁.setTop (entryFrame m #[.ref b, .int (Int32.ofNat o), .int (Int32.ofNat len)] 6)) (s₁.setTop (mkF m 0 #[.val (.ref b), .val (.int (Int32.ofNat o)), .val (.int (Int32.ofNat len)), .unset, .unset, .unset] [])) := entry rfl
  have c2 : Steps p.tables e below (s₁.setTop (entryFrame m #[.ref b, .int (Int32.ofNat o), .int (Int32.ofNat len)] 6)) (s₁.setTop (mkF m 1 #[.val (.ref b), .val (.int (Int32.ofNat o)), .val (.int (Int32.ofNat len)), .unset, .unset, .unset] [.int (Int32.ofNat len)])) := c1.trans (by
    refine XS.iloadN X0.here hexec rfl (hb hbytes d0) rfl ?_
    exact Steps.refl _)
  obtain ⟨T3, B3, X3, ba3, bs3, bv3, bh3, bf3, st3⟩ := X0.anew hexec (atype := .byte) (wk W (.arrayClass .byte)) rfl (by show len * 1 ≤ _; omega) (by omega) (g := (mkF m 1 #[.val (.ref b), .val (.int (Int32.ofNat o)), .val (.int (Int32.ofNat len)), .unset, .unset, .unset] [.int (Int32.ofNat len)])) rfl (hb hbytes d1) (rest := []) rfl (Nat.le_refl _) (by show 0 + len ≤ len; omega)
  rw [hh0] at ba3 st3
  have kp3 : XT.Kept s T3 := (XT.Kept.of_eq hh0).push bh3
  have hA3 := hA.keep X3.warmed.alike (kp3 _ _ hA.1.1)
  have hne : b ≠ s.heap.size := hA.1.ne
  have c4 : Steps p.tables e below (s₁.setTop (entryFrame m #[.ref b, .int (Int32.ofNat o), .int (Int32.ofNat len)] 6)) (T3.setTop (mkF m 3 #[.val (.ref b), .val (.int (Int32.ofNat o)), .val (.int (Int32.ofNat len)), .unset, .unset, .unset] [.ref s.heap.size])) := c2.trans (st3 _ (Steps.refl _))
  have c5 : Steps p.tables e below (s₁.setTop (entryFrame m #[.ref b, .int (Int32.ofNat o), .int (Int32.ofNat len)] 6)) (T3.setTop (mkF m 9 #[.val (.ref b), .val (.int (Int32.ofNat o)), .val (.int (Int32.ofNat len)), .val (.ref s.heap.size), .unset, .unset] [.int (Int32.ofNat len), .int 0, .ref s.heap.size, .int (Int32.ofNat o), .ref b])) := c4.trans (by
    refine XS.astoreN X3.here hexec rfl (hb hbytes d3) rfl rfl rfl ?_
    refine XS.aloadN X3.here hexec rfl (hb hbytes d4) rfl rfl ?_
    refine XS.iloadN X3.here hexec rfl (hb hbytes d5) rfl ?_
    refine XS.aloadN X3.here hexec rfl (hb hbytes d6) rfl rfl ?_
    refine iconstV X3.here hexec rfl 0 (hb hbytes d7) (by decide) ?_
    refine XS.iloadN X3.here hexec rfl (hb hbytes d8) rfl ?_
    exact Steps.refl _)
  obtain ⟨v6, T6, X6, E6, g6⟩ := X3.callS hexec (Cmp5.law l b A s.heap.size B3 o 0 len) hown (wks W (staticW U16 115 Cmp5.yN)) (wk W Cmp5.tab) (W := 0) (Nat.le_of_ble_eq_true rfl) (Nat.le_of_ble_eq_true rfl) (Nat.le_refl _) (by show 0 + len + 0 ≤ len; omega) (g := (mkF m 9 #[.val (.ref b), .val (.int (Int32.ofNat o)), .val (.int (Int32.ofNat len)), .val (.ref s.heap.size), .unset, .unset] [.int (Int32.ofNat len), .int (Int32.ofNat 0), .ref s.heap.size, .int (Int32.ofNat o), .ref b])) rfl (by rw [hml]; rfl) c5 (argsL := [.ref b, .int (Int32.ofNat o), .ref s.heap.size, .int (Int32.ofNat 0), .int (Int32.ofNat len)]) (rest := []) rfl rfl (by show 2 * 0 + 0 ≤ _; decide) (hb hbytes d9) (⟨rfl, hA3, ba3, hne, l1, by rw [bs3]; simp, hp⟩)
  obtain ⟨rfl, B6, p6, f6⟩ := E6
  have c7 : Steps p.tables e below (s₁.setTop (entryFrame m #[.ref b, .int (Int32.ofNat o), .int (Int32.ofNat len)] 6)) (T6.setTop (mkF m 12 #[.val (.ref b), .val (.int (Int32.ofNat o)), .val (.int (Int32.ofNat len)), .val (.ref s.heap.size), .unset, .unset] [.int (Int32.ofNat len)])) := g6
  have c8 : Steps p.tables e below (s₁.setTop (entryFrame m #[.ref b, .int (Int32.ofNat o), .int (Int32.ofNat len)] 6)) (T6.setTop (mkF m 58 #[.val (.ref b), .val (.int (Int32.ofNat o)), .val (.int (Int32.ofNat len)), .val (.ref s.heap.size), .val (.int (Int32.ofNat len)), .unset] [.ref s.heap.size])) := c7.trans (by
    refine XS.istore X6.here hexec rfl (hb hbytes d12) rfl rfl ?_
    refine XS.iload X6.here hexec rfl (hb hbytes d14) rfl ?_
    refine XS.iloadN X6.here hexec rfl (hb hbytes d16) rfl ?_
    refine XS.icmpYes X6.here hexec rfl (pc0 := 17) rfl (hb hbytes d17) rfl (ii_eq_t rfl) (by decide) rfl ?_
    refine XS.aloadN X6.here hexec rfl (hb hbytes d57) rfl rfl ?_
    exact Steps.refl _)
  have X8 := X6.wide (L' := []) (cells' := 1) (slots' := len) (fun x hx hlt => by
    simp only [List.nil_append, copyLocs, List.mem_map, List.mem_range] at hx
    obtain ⟨i, -, rfl⟩ := hx
    exact absurd hlt (Nat.lt_irrefl _)) (Nat.le_refl _) (by omega)
  exact ⟨T6, some (.ref s.heap.size), _, _, _, X8, rfl, rfl, rfl, (fun h => by cases h), ⟨⟨rfl, B6, ba3.like (X3.warmed.alike.symm.trans X6.warmed.alike) p6.1 f6.1 f6.2.1 f6.2.2.1, f6.2.1.trans bv3, by rw [X6.warmed.alike.findClass, f6.1]; exact bf3, by rw [f6.2.2.1, bs3]; simp, fun j hj => by rw [f6.2.2.2 j, if_pos (by omega)]; rfl, kp3.put p6 (Nat.le_refl _)⟩, by rw [p6.2.2, bh3, hh0]; simp⟩, fun fs hl => c8.trans (X8.areturnOut hexec rfl hret rfl (hb hbytes d58) hl)⟩
end Cmp3
namespace CodL
def yN : MethodName := ⟨"java/lang/StringUTF16", "coderFromArrayLen", "([BI)B"⟩
abbrev yB : ByteArray := jdk_52_method_15_code
theorem d0 : decode yB 0 = .ok (.iload_n 1, 1) := by decide +kernel
theorem d1 : decode yB 1 = .ok (.aload_n 0, 1) := by decide +kernel
theorem d2 : decode yB 2 = .ok (.arraylength, 1) := by decide +kernel
theorem d3 : decode yB 3 = .ok (.isub, 1) := by decide +kernel
theorem d4 : decode yB 4 = .ok (.bipush 31, 2) := by decide +kernel
theorem d6 : decode yB 6 = .ok (.iushr, 1) := by decide +kernel
theorem d7 : decode yB 7 = .ok (.i2b, 1) := by decide +kernel
theorem d8 : decode yB 8 = .ok (.ireturn, 1) := by decide +kernel
def site : List Cond := []
def tab : Cond := tabOf yN yB 2 (some .byte) site
def P (d : Addr) (B : Cell) (args : Array Value) (s : State) : Prop := args = #[.ref d, .int (Int32.ofNat B.slots.size)] ∧ Arr .byte d B s
def E (r : Option Value) (s u : State) : Prop := XT.PureE (some (.int 0)) r s u
/-- an array as long as the number of chars: LATIN1 -/
theorem law (l : Launch) (d : Addr) (B : Cell) : Law l yN 2 2 0 0 yB 2 (some .byte) site (P d B) E [] 0 0 := by
  refine Law.of_walk (plainFor_of_name (by decide +kernel)) (by decide +kernel) (by decide +kernel) (by decide) (fun _ _ h => by rw [h.1]; rfl) (fun _ U U' hal hh h => ⟨h.1, h.2.mv hal hh⟩) (fun r U U' V V' h1 hal h2 h => XT.PureE.mv r U U' V V' h1 hal h2 h) ?_
  intro p e s m args below meth c s₁ X0 hexec hbytes hml hret hlk hnm hown hh0 W hP
  obtain ⟨rfl, hB⟩ := hP
  have hB0 := hB.mv X0.warmed.alike hh0
  have c1 : Steps p.tables e below (s₁.setTop (entryFrame m #[.ref d, .int (Int32.ofNat B.slots.size)] 2)) (s₁.setTop (mkF m 0 #[.val (.ref d), .val (.int (Int32.ofNat B.slots.size))] [])) := entry rfl
  have c2 : Steps p.tables e below (s₁.setTop (entryFrame m #[.ref d, .int (Int32.ofNat B.slots.size)] 2)) (s₁.setTop (mkF m 2 #[.val (.ref d), .val (.int (Int32.ofNat B.slots.size))] [.ref d, .int (Int32.ofNat B.slots.size)])) := c1.trans (by
    refine XS.iloadN X0.here hexec rfl (hb hbytes d0) rfl ?_
    refine XS.aloadN X0.here hexec rfl (hb hbytes d1) rfl rfl ?_
    exact Steps.refl _)
  have c3 : Steps p.tables e below (s₁.setTop (entryFrame m #[.ref d, .int (Int32.ofNat B.slots.size)] 2)) (s₁.setTop (mkF m 8 #[.val (.ref d), .val (.int (Int32.ofNat B.slots.size))] [.int (lo8 (ushr (Int32.ofNat B.slots.size - Int32.ofNat B.slots.size) 31))])) := c2.trans (by
    refine X0.alen hexec hB0 rfl rfl (hb hbytes d2) ?_
    refine XS.isub X0.here hexec rfl (hb hbytes d3) rfl ?_
    refine bipushV X0.here hexec rfl 31 (hb hbytes d4) (by decide) ?_
    refine iushr X0.here hexec rfl (hb hbytes d6) rfl ?_
    refine i2b X0.here hexec rfl (hb hbytes d7) rfl ?_
    exact Steps.refl _)
  have e0 : lo8 (ushr (Int32.ofNat B.slots.size - Int32.ofNat B.slots.size) 31) = 0 := by rw [Int32.sub_self]; decide
  rw [e0] at c3
  exact ⟨s₁, some (.int 0), _, _, _, X0, rfl, rfl, rfl, (fun h => by cases h), ⟨rfl, hh0⟩, fun fs hl => c3.trans (X0.ireturnOut hexec hret rfl (Or.inr (Or.inr (Or.inl rfl))) (hb hbytes d8) hl)⟩
end CodL
/-- the String at a is Latin-1 over a new byte[] (the heap's one new cell): the low bytes of the len chars of A from o on; every cell but a is kept -/
def Got (a : Addr) (D : Cell) (fV fC : Field) (A : Cell) (o len : Nat) (r : Option Value) (s u : State) : Prop := r = none ∧ ∃ D' V : Cell, Blank "java/lang/String" a D' u ∧ Same D D' [fV.slot, fC.slot] ∧ D'.slots[fV.slot]? = some (.ref s.heap.size) ∧ D'.slots[fC.slot]? = some (.int 0) ∧ Arr .byte s.heap.size V u ∧ V.vm = .none ∧ u.vm.findClass "[B" = some V.cls ∧ V.slots.size = len ∧ (∀ j, j < len → V.slots[j]? = some (.int (lo8 (cv A (o + j))))) ∧ (∀ (y : Addr) (c : Cell), y ≠ a → s.heap[y]? = some c → u.heap[y]? = some c) ∧ u.heap.size = s.heap.size + 1
theorem Got.mv {a : Addr} {D A : Cell} {fV fC : Field} {o len : Nat} : ∀ r (U U' V V' : State), U'.heap = U.heap → V.vm.Alike V'.vm → V'.heap = V.heap → Got a D fV fC A o len r U V → Got a D fV fC A o len r U' V' :=
  fun r U U' V V' h1 hal h2 ⟨e0, D', X, a1, a2, a3, a4, a5, a6, a7, a8, a9, a10, a11⟩ => ⟨e0, D', X, a1.mv hal h2, a2, by rw [h1]; exact a3, a4, by rw [h1]; exact a5.mv hal h2, a6, by rw [hal.findClass]; exact a7, a8, a9, by rw [h1, h2]; exact a10, by rw [h1, h2]; exact a11⟩
namespace New4
def yN : MethodName := ⟨"java/lang/String", "<init>", "([CIILjava/lang/Void;)V"⟩
abbrev yB : ByteArray := jdk_42_method_149_code
theorem d0 : decode yB 0 = .ok (.aload_n 0, 1) := by decide +kernel
theorem d1 : decode yB 1 = .ok (.invokespecial 1, 3) := by decide +kernel
theorem d4 : decode yB 4 = .ok (.iload_n 3, 1) := by decide +kernel
theorem d5 : decode yB 5 = .ok (.ifCond (.ne) 22, 3) := by decide +kernel
theorem d27 : decode yB 27 = .ok (.getstatic 38, 3) := by decide +kernel
theorem d30 : decode yB 30 = .ok (.ifCond (.eq) 28, 3) := by decide +kernel
theorem d33 : decode yB 33 = .ok (.aload_n 1, 1) := by decide +kernel
theorem d34 : decode yB 34 = .ok (.iload_n 2, 1) := by decide +kernel
theorem d35 : decode yB 35 = .ok (.iload_n 3, 1) := by decide +kernel
theorem d36 : decode yB 36 = .ok (.invokestatic 177, 3) := by decide +kernel
theorem d39 : decode yB 39 = .ok (.astore 5, 2) := by decide +kernel
theorem d41 : decode yB 41 = .ok (.aload_n 0, 1) := by decide +kernel
theorem d42 : decode yB 42 = .ok (.aload 5, 2) := by decide +kernel
theorem d44 : decode yB 44 = .ok (.iload_n 3, 1) := by decide +kernel
theorem d45 : decode yB 45 = .ok (.invokestatic 47, 3) := by decide +kernel
theorem d48 : decode yB 48 = .ok (.putfield 15, 3) := by decide +kernel
theorem d51 : decode yB 51 = .ok (.aload_n 0, 1) := by decide +kernel
theorem d52 : decode yB 52 = .ok (.aload 5, 2) := by decide +kernel
theorem d54 : decode yB 54 = .ok (.putfield 9, 3) := by decide +kernel
theorem d57 : decode yB 57 = .ok (.return_, 1) := by decide +kernel
def site : List Cond := [.fieldLink "java/lang/String" 38 "java/lang/String" "COMPACT_STRINGS" "Z", Cmp3.tab, CodL.tab, .laysFinal "java/lang/String" "java/lang/String" "value" "[B", .fieldLink "java/lang/String" 9 "java/lang/String" "value" "[B", .laysFinal "java/lang/String" "java/lang/String" "coder" "B", .fieldLink "java/lang/String" 15 "java/lang/String" "coder" "B"] ++ objW "java/lang/String" 1 ++ staticW "java/lang/String" 177 Cmp3.yN ++ staticW "java/lang/String" 47 CodL.yN
def tab : Cond := tabOf yN yB 6 none site
def P (a : Addr) (D : Cell) (fV fC : Field) (b : Addr) (A : Cell) (z : Int32) (o len : Nat) (args : Array Value) (s : State) : Prop := args = #[.ref a, .ref b, .int (Int32.ofNat o), .int (Int32.ofNat len), .null] ∧ Blank "java/lang/String" a D s ∧ Found "java/lang/String" "value" "[B" fV s ∧ Found "java/lang/String" "coder" "B" fC s ∧ Ch b A s ∧ StaticIs s "java/lang/String" "COMPACT_STRINGS" "Z" (.int z) ∧ ¬ z = 0 ∧ 0 < len ∧ o + len ≤ A.slots.size ∧ len ≤ 536870912 ∧ ∀ i, i < len → ¬ 255 < cv A (o + i)
def E (a : Addr) (D : Cell) (fV fC : Field) (A : Cell) (o len : Nat) (r : Option Value) (s u : State) : Prop := Got a D fV fC A o len r s u
/-- len > 0, no char of the range above 255: a Latin-1 String of their low bytes -/
theorem law (l : Launch) (a : Addr) (D : Cell) (fV fC : Field) (b : Addr) (A : Cell) (z : Int32) (o len : Nat) : Law l yN 5 4 2 35 yB 6 none site (P a D fV fC b A z o len) (E a D fV fC A o len) [⟨a, fC.slot⟩, ⟨a, fV.slot⟩] 1 len := by
  refine Law.of_walk (plainFor_of_name (by decide +kernel)) (by decide +kernel) (by decide +kernel) (by decide) (fun _ _ h => by rw [h.1]; rfl) (fun _ U U' hal hh h => ⟨h.1, h.2.1.mv hal hh, h.2.2.1.al hal, h.2.2.2.1.al hal, h.2.2.2.2.1.mv hal hh, h.2.2.2.2.2.1.there hal hh, h.2.2.2.2.2.2⟩) (fun r U U' V V' h1 hal h2 h => Got.mv r U U' V V' h1 hal h2 h) ?_
  intro p e s m args below meth c s₁ X0 hexec hbytes hml hret hlk hnm hown hh0 W hP
  obtain ⟨rfl, hB, f1, f2, hA, s1, hz, l0, l1, l2, hp⟩ := hP
  have a31 := hA.1.2.2.2
  have c1 : Steps p.tables e below (s₁.setTop (entryFrame m #[.ref a, .ref b, .int (Int32.ofNat o), .int (Int32.ofNat len), .null] 6)) (s₁.setTop (mkF m 0 #[.val (.ref a), .val (.ref b), .val (.int (Int32.ofNat o)), .val (.int (Int32.ofNat len)), .val .null, .unset] [])) := entry rfl
  have c2 : Steps p.tables e below (s₁.setTop (entryFrame m #[.ref a, .ref b, .int (Int32.ofNat o), .int (Int32.ofNat len), .null] 6)) (s₁.setTop (mkF m 1 #[.val (.ref a), .val (.ref b), .val (.int (Int32.ofNat o)), .val (.int (Int32.ofNat len)), .val .null, .unset] [.ref a])) := c1.trans (by
    refine XS.aloadN X0.here hexec rfl (hb hbytes d0) rfl rfl ?_
    exact Steps.refl _)
  obtain ⟨T3, X3, q3, st3⟩ := X0.oinit hexec hown (wks W (objW "java/lang/String" 1)) (g := (mkF m 1 #[.val (.ref a), .val (.ref b), .val (.int (Int32.ofNat o)), .val (.int (Int32.ofNat len)), .val .null, .unset] [.ref a])) rfl (by rw [hml]; rfl) (rest := []) rfl (hb hbytes d1) (W := 0) (by show 2 * 0 + 0 ≤ _; decide) (Nat.le_of_ble_eq_true rfl) (Nat.le_of_ble_eq_true rfl)
  have hh3 := q3.trans hh0
  have c4 : Steps p.tables e below (s₁.setTop (entryFrame m #[.ref a, .ref b, .int (Int32.ofNat o), .int (Int32.ofNat len), .null] 6)) (T3.setTop (mkF m 27 #[.val (.ref a), .val (.ref b), .val (.int (Int32.ofNat o)), .val (.int (Int32.ofNat len)), .val .null, .unset] [])) := (c2.trans (st3 _ (Steps.refl _))).trans (by
    refine XS.iloadN X3.here hexec rfl (hb hbytes d4) rfl ?_
    refine XS.ifYes X3.here hexec rfl (pc0 := 5) rfl (hb hbytes d5) rfl (i0_ne_t (nz32 (by omega) l0)) (by decide) rfl ?_
    exact Steps.refl _)
  obtain ⟨T5, X5, q5, st5⟩ := X3.sget hexec hown (wk W (.fieldLink "java/lang/String" 38 "java/lang/String" "COMPACT_STRINGS" "Z")) s1 (fun _ _ h => by rw [hh3]; exact h) (g := (mkF m 27 #[.val (.ref a), .val (.ref b), .val (.int (Int32.ofNat o)), .val (.int (Int32.ofNat len)), .val .null, .unset] [])) rfl (hb hbytes d27)
  have hh5 := q5.trans hh3
  have c6 : Steps p.tables e below (s₁.setTop (entryFrame m #[.ref a, .ref b, .int (Int32.ofNat o), .int (Int32.ofNat len), .null] 6)) (T5.setTop (mkF m 30 #[.val (.ref a), .val (.ref b), .val (.int (Int32.ofNat o)), .val (.int (Int32.ofNat len)), .val .null, .unset] [.int z])) := c4.trans (st5 _ (Steps.refl _))
  have c7 : Steps p.tables e below (s₁.setTop (entryFrame m #[.ref a, .ref b, .int (Int32.ofNat o), .int (Int32.ofNat len), .null] 6)) (T5.setTop (mkF m 36 #[.val (.ref a), .val (.ref b), .val (.int (Int32.ofNat o)), .val (.int (Int32.ofNat len)), .val .null, .unset] [.int (Int32.ofNat len), .int (Int32.ofNat o), .ref b])) := c6.trans (by
    refine XS.ifNo X5.here hexec rfl (hb hbytes d30) rfl (i0_eq_f hz) ?_
    refine XS.aloadN X5.here hexec rfl (hb hbytes d33) rfl rfl ?_
    refine XS.iloadN X5.here hexec rfl (hb hbytes d34) rfl ?_
    refine XS.iloadN X5.here hexec rfl (hb hbytes d35) rfl ?_
    exact Steps.refl _)
  obtain ⟨v8, T8, X8, E8, g8⟩ := X5.callS hexec (Cmp3.law l b A o len) hown (wks W (staticW "java/lang/String" 177 Cmp3.yN)) (wk W Cmp3.tab) (W := 0) (Nat.le_of_ble_eq_true rfl) (Nat.le_of_ble_eq_true rfl) (Nat.le_refl _) (by show 0 + len ≤ len; omega) (g := (mkF m 36 #[.val (.ref a), .val (.ref b), .val (.int (Int32.ofNat o)), .val (.int (Int32.ofNat len)), .val .null, .unset] [.int (Int32.ofNat len), .int (Int32.ofNat o), .ref b])) rfl (by rw [hml]; rfl) c7 (argsL := [.ref b, .int (Int32.ofNat o), .int (Int32.ofNat len)]) (rest := []) rfl rfl (by show 2 * 0 + 0 ≤ _; decide) (hb hbytes d36) (⟨rfl, hA.mv X5.warmed.alike hh5, l1, l2, hp⟩)
  obtain ⟨e8, z8⟩ := E8
  obtain ⟨rfl, N, n1, n2, n3, n4, n5, n6⟩ := NewArr.mv _ T5 s _ _ hh5.symm (Vm.Alike.refl _) rfl e8
  rw [hh5] at z8
  have hB1 := hB.keep X8.warmed.alike (n6 _ _ hB.1)
  have hne : s.heap.size ≠ a := (Nat.ne_of_lt (Array.getElem?_eq_some_iff.mp hB.1).1).symm
  have c9 : Steps p.tables e below (s₁.setTop (entryFrame m #[.ref a, .ref b, .int (Int32.ofNat o), .int (Int32.ofNat len), .null] 6)) (T8.setTop (mkF m 39 #[.val (.ref a), .val (.ref b), .val (.int (Int32.ofNat o)), .val (.int (Int32.ofNat len)), .val .null, .unset] [.ref s.heap.size])) := g8
  have c10 : Steps p.tables e below (s₁.setTop (entryFrame m #[.ref a, .ref b, .int (Int32.ofNat o), .int (Int32.ofNat len), .null] 6)) (T8.setTop (mkF m 45 #[.val (.ref a), .val (.ref b), .val (.int (Int32.ofNat o)), .val (.int (Int32.ofNat len)), .val .null, .val (.ref s.heap.size)] [.int (Int32.ofNat N.slots.size), .ref s.heap.size, .ref a])) := by
    have hc : Steps p.tables e below (s₁.setTop (entryFrame m #[.ref a, .ref b, .int (Int32.ofNat o), .int (Int32.ofNat len), .null] 6)) (T8.setTop (mkF m 45 #[.val (.ref a), .val (.ref b), .val (.int (Int32.ofNat o)), .val (.int (Int32.ofNat len)), .val .null, .val (.ref s.heap.size)] [.int (Int32.ofNat len), .ref s.heap.size, .ref a])) := c9.trans (by
      refine XS.astore X8.here hexec rfl (hb hbytes d39) rfl rfl rfl ?_
      refine XS.aloadN X8.here hexec rfl (hb hbytes d41) rfl rfl ?_
      refine XS.aload X8.here hexec rfl (hb hbytes d42) rfl rfl ?_
      refine XS.iloadN X8.here hexec rfl (hb hbytes d44) rfl ?_
      exact Steps.refl _)
    rw [n4]; exact hc
  obtain ⟨v11, T11, X11, E11, g11⟩ := X8.callS hexec (CodL.law l s.heap.size N) hown (wks W (staticW "java/lang/String" 47 CodL.yN)) (wk W CodL.tab) (W := 1) (Nat.le_of_ble_eq_true rfl) (Nat.le_of_ble_eq_true rfl) (Nat.le_refl _) (by show 0 + len + 0 ≤ len; omega) (g := (mkF m 45 #[.val (.ref a), .val (.ref b), .val (.int (Int32.ofNat o)), .val (.int (Int32.ofNat len)), .val .null, .val (.ref s.heap.size)] [.int (Int32.ofNat N.slots.size), .ref s.heap.size, .ref a])) rfl (by rw [hml]; rfl) c10 (argsL := [.ref s.heap.size, .int (Int32.ofNat N.slots.size)]) (rest := [.ref a]) rfl rfl (by show 2 * 0 + (1 + 0) ≤ _; decide) (hb hbytes d45) (⟨rfl, n1⟩)
  obtain ⟨rfl, q11⟩ := E11
  have hB11 := hB1.mv (X8.warmed.alike.symm.trans X11.warmed.alike) q11
  have c12 : Steps p.tables e below (s₁.setTop (entryFrame m #[.ref a, .ref b, .int (Int32.ofNat o), .int (Int32.ofNat len), .null] 6)) (T11.setTop (mkF m 48 #[.val (.ref a), .val (.ref b), .val (.int (Int32.ofNat o)), .val (.int (Int32.ofNat len)), .val .null, .val (.ref s.heap.size)] [.int 0, .ref a])) := g11
  obtain ⟨T13, X13, p13, bl13, sl13, st13⟩ := X11.finit hexec hown (wk W (.fieldLink "java/lang/String" 15 "java/lang/String" "coder" "B")) (Or.inr ⟨_, (wk W (.laysFinal "java/lang/String" "java/lang/String" "coder" "B"))⟩) (Or.inl ⟨rfl, hnm⟩) f2 (Or.inl rfl) hB11 (t := .byte) (by decide +kernel) rfl (g := (mkF m 48 #[.val (.ref a), .val (.ref b), .val (.int (Int32.ofNat o)), .val (.int (Int32.ofNat len)), .val .null, .val (.ref s.heap.size)] [.int 0, .ref a])) rfl (rest := []) rfl (hb hbytes d48)
  have c14 : Steps p.tables e below (s₁.setTop (entryFrame m #[.ref a, .ref b, .int (Int32.ofNat o), .int (Int32.ofNat len), .null] 6)) (T13.setTop (mkF m 54 #[.val (.ref a), .val (.ref b), .val (.int (Int32.ofNat o)), .val (.int (Int32.ofNat len)), .val .null, .val (.ref s.heap.size)] [.ref s.heap.size, .ref a])) := (c12.trans (st13 _ (Steps.refl _))).trans (by
    refine XS.aloadN X13.here hexec rfl (hb hbytes d51) rfl rfl ?_
    refine XS.aload X13.here hexec rfl (hb hbytes d52) rfl rfl ?_
    exact Steps.refl _)
  obtain ⟨T15, X15, p15, bl15, sl15, st15⟩ := X13.finit hexec hown (wk W (.fieldLink "java/lang/String" 9 "java/lang/String" "value" "[B")) (Or.inr ⟨_, (wk W (.laysFinal "java/lang/String" "java/lang/String" "value" "[B"))⟩) (Or.inl ⟨rfl, hnm⟩) f1 (Or.inl rfl) bl13 (t := (.array .byte)) (by decide +kernel) rfl (g := (mkF m 54 #[.val (.ref a), .val (.ref b), .val (.int (Int32.ofNat o)), .val (.int (Int32.ofNat len)), .val .null, .val (.ref s.heap.size)] [.ref s.heap.size, .ref a])) rfl (rest := []) rfl (hb hbytes d54)
  have c16 : Steps p.tables e below (s₁.setTop (entryFrame m #[.ref a, .ref b, .int (Int32.ofNat o), .int (Int32.ofNat len), .null] 6)) (T15.setTop (mkF m 57 #[.val (.ref a), .val (.ref b), .val (.int (Int32.ofNat o)), .val (.int (Int32.ofNat len)), .val .null, .val (.ref s.heap.size)] [])) := c14.trans (st15 _ (Steps.refl _))
  have ap := apart (Or.inr ⟨_, (wk W (.laysFinal "java/lang/String" "java/lang/String" "value" "[B"))⟩) (Or.inr ⟨_, (wk W (.laysFinal "java/lang/String" "java/lang/String" "coder" "B"))⟩) f1 f2 (t₁ := .array .byte) (t₂ := .byte) (by decide +kernel) (by decide +kernel) (by decide)
  have al := X8.warmed.alike.symm.trans X15.warmed.alike
  have n7 : T11.heap[s.heap.size]? = some N := by rw [q11]; exact n1.1
  exact ⟨T15, none, _, _, _, X15, by simp, rfl, by omega, (fun _ => rfl), ⟨rfl, _, N, bl15, ((Same.refl D _).set _ (by simp)).set _ (by simp), sl15, (Cell.slots_setSlot_ne _ ap).trans sl13, n1.keep al (p15.other hne (p13.other hne n7)), n2, by rw [al.findClass]; exact n3, n4, n5, fun y c h1 h2 => p15.other h1 (p13.other h1 (by rw [q11]; exact n6 y c h2)), by rw [p15.2.2, p13.2.2, q11]; exact z8⟩, fun fs hl => c16.trans (X15.returnOut hexec hret (hb hbytes d57) hl)⟩
end New4
namespace New1
def yN : MethodName := ⟨"java/lang/String", "<init>", "([C)V"⟩
abbrev yB : ByteArray := jdk_42_method_3_code
theorem d0 : decode yB 0 = .ok (.aload_n 0, 1) := by decide +kernel
theorem d1 : decode yB 1 = .ok (.aload_n 1, 1) := by decide +kernel
theorem d2 : decode yB 2 = .ok (.iconst 0, 1) := by decide +kernel
theorem d3 : decode yB 3 = .ok (.aload_n 1, 1) := by decide +kernel
theorem d4 : decode yB 4 = .ok (.arraylength, 1) := by decide +kernel
theorem d5 : decode yB 5 = .ok (.aconst_null, 1) := by decide +kernel
theorem d6 : decode yB 6 = .ok (.invokespecial 27, 3) := by decide +kernel
theorem d9 : decode yB 9 = .ok (.return_, 1) := by decide +kernel
def site : List Cond := [New4.tab] ++ initW "java/lang/String" 27 New4.yN
def tab : Cond := tabOf yN yB 2 none site
def P (a : Addr) (D : Cell) (fV fC : Field) (b : Addr) (A : Cell) (z : Int32) (args : Array Value) (s : State) : Prop := args = #[.ref a, .ref b] ∧ Blank "java/lang/String" a D s ∧ Found "java/lang/String" "value" "[B" fV s ∧ Found "java/lang/String" "coder" "B" fC s ∧ Ch b A s ∧ StaticIs s "java/lang/String" "COMPACT_STRINGS" "Z" (.int z) ∧ ¬ z = 0 ∧ 0 < A.slots.size ∧ A.slots.size ≤ 536870912 ∧ ∀ i, i < A.slots.size → ¬ 255 < cv A i
def E (a : Addr) (D : Cell) (fV fC : Field) (A : Cell) (r : Option Value) (s u : State) : Prop := Got a D fV fC A 0 A.slots.size r s u
/-- new String(chars), not empty, no char above 255: a Latin-1 String of their low bytes -/
theorem law (l : Launch) (a : Addr) (D : Cell) (fV fC : Field) (b : Addr) (A : Cell) (z : Int32) : Law l yN 2 1 3 52 yB 2 none site (P a D fV fC b A z) (E a D fV fC A) [⟨a, fC.slot⟩, ⟨a, fV.slot⟩] 1 A.slots.size := by
  refine Law.of_walk (plainFor_of_name (by decide +kernel)) (by decide +kernel) (by decide +kernel) (by decide) (fun _ _ h => by rw [h.1]; rfl) (fun _ U U' hal hh h => ⟨h.1, h.2.1.mv hal hh, h.2.2.1.al hal, h.2.2.2.1.al hal, h.2.2.2.2.1.mv hal hh, h.2.2.2.2.2.1.there hal hh, h.2.2.2.2.2.2⟩) (fun r U U' V V' h1 hal h2 h => Got.mv r U U' V V' h1 hal h2 h) ?_
  intro p e s m args below meth c s₁ X0 hexec hbytes hml hret hlk hnm hown hh0 W hP
  obtain ⟨rfl, hB, f1, f2, hA, s1, hz, l0, l2, hp⟩ := hP
  have c1 : Steps p.tables e below (s₁.setTop (entryFrame m #[.ref a, .ref b] 2)) (s₁.setTop (mkF m 0 #[.val (.ref a), .val (.ref b)] [])) := entry rfl
  have c2 : Steps p.tables e below (s₁.setTop (entryFrame m #[.ref a, .ref b] 2)) (s₁.setTop (mkF m 6 #[.val (.ref a), .val (.ref b)] [.null, .int (Int32.ofNat A.slots.size), .int 0, .ref b, .ref a])) := c1.trans (by
    refine XS.aloadN X0.here hexec rfl (hb hbytes d0) rfl rfl ?_
    refine XS.aloadN X0.here hexec rfl (hb hbytes d1) rfl rfl ?_
    refine iconstV X0.here hexec rfl 0 (hb hbytes d2) (by decide) ?_
    refine XS.aloadN X0.here hexec rfl (hb hbytes d3) rfl rfl ?_
    refine X0.alen hexec (hA.1.mv X0.warmed.alike hh0) rfl rfl (hb hbytes d4) ?_
    refine XS.aconstNull X0.here hexec rfl (hb hbytes d5) ?_
    exact Steps.refl _)
  obtain ⟨v3, T3, X3, E3, g3⟩ := X0.callN hexec (New4.law l a D fV fC b A z 0 A.slots.size) rfl hown (wks W (initW "java/lang/String" 27 New4.yN)) (W New4.tab (by simp only [site, List.mem_cons, List.mem_append, true_or, or_true])) (W := 0) (Nat.le_of_ble_eq_true rfl) (Nat.le_of_ble_eq_true rfl) (Nat.le_refl _) (by show 0 + A.slots.size ≤ A.slots.size; omega) (g := (mkF m 6 #[.val (.ref a), .val (.ref b)] [.null, .int (Int32.ofNat A.slots.size), .int (Int32.ofNat 0), .ref b, .ref a])) rfl (by rw [hml]; rfl) c2 (argsL := [.ref b, .int (Int32.ofNat 0), .int (Int32.ofNat A.slots.size), .null]) (rest := []) rfl rfl (by show 2 * 0 + 0 ≤ _; decide) (hb hbytes d6) (⟨rfl, hB.mv X0.warmed.alike hh0, f1.al X0.warmed.alike, f2.al X0.warmed.alike, hA.mv X0.warmed.alike hh0, s1.there X0.warmed.alike hh0, hz, l0, by omega, l2, fun i hi => by rw [Nat.zero_add]; exact hp i hi⟩)
  have e0 := Got.mv _ s₁ s _ _ hh0.symm (Vm.Alike.refl _) rfl E3
  obtain rfl := e0.1
  have c4 : Steps p.tables e below (s₁.setTop (entryFrame m #[.ref a, .ref b] 2)) (T3.setTop (mkF m 9 #[.val (.ref a), .val (.ref b)] [])) := g3
  exact ⟨T3, none, _, _, _, X3, by simp, rfl, by omega, (fun _ => rfl), e0, fun fs hl => c4.trans (X3.returnOut hexec hret (hb hbytes d9) hl)⟩
theorem pays {l : Launch} {R : Room} {p : Program} {e : Env} {below : List Frame} {s : State} {sargs : Array Value} {len W : Nat} (a : Addr) (D : Cell) (fV fC : Field) (b : Addr) (A : Cell) (z : Int32) (htab : tab.before sargs s = true) (hfr : 4 ≤ R.frames) (hlo : W + 65 ≤ R.locals) :
    Back l R p e below s sargs yN len W (fun A₁ a₁ => A₁.cells + 1 ≤ R.cells ∧ A₁.slots + A.slots.size ≤ R.slots ∧ P a D fV fC b A z a₁ A₁.U) (fun A₁ _ v₁ B₁ => E a D fV fC A v₁ A₁.U B₁.U ∧ B₁.locs = A₁.locs ++ [⟨a, fC.slot⟩, ⟨a, fV.slot⟩] ∧ B₁.cells = A₁.cells + 1 ∧ B₁.slots = A₁.slots + A.slots.size) :=
  (law l a D fV fC b A z).pays htab hfr (by omega)
end New1
end StrChars
namespace StrChars.Road
open Jvm Sem ClassFile Op Lib Jvm.Stand Jvm.Free Jvm.Free.XT
open Jvm.Lib.Cold (StaticIs)
abbrev ST : String := "java/lang/String"
/-- every table word that New1's law asks, flat -/
abbrev words : List Jvm.Cond := [.code New1.yN New1.yB 2 none, .initialized ST, .methodLink ST 27 New4.yN, .instanceMethod New4.yN,
  .code New4.yN New4.yB 6 none, .fieldLink ST 38 ST "COMPACT_STRINGS" "Z", .laysFinal ST ST "value" "[B", .fieldLink ST 9 ST "value" "[B", .laysFinal ST ST "coder" "B", .fieldLink ST 15 ST "coder" "B",
  .methodLink ST 1 Lib.objectInit, .instanceMethod Lib.objectInit, .code Lib.objectInit ⟨#[0xb1]⟩ 1 none, .methodLink ST 177 Cmp3.yN, .static Cmp3.yN, .methodLink ST 47 CodL.yN, .static CodL.yN,
  .code Cmp3.yN Cmp3.yB 6 (some (.array .byte)), .initialized U16, .arrayClass .byte, .methodLink U16 115 Cmp5.yN, .static Cmp5.yN, .code Cmp5.yN Cmp5.yB 7 (some .int), .code CodL.yN CodL.yB 2 (some .byte)]
theorem tab_of {a : Array Value} {s : State} (h : ∀ w ∈ words, w.before a s = true) : New1.tab.before a s = true := by
  have h5 : Cmp5.tab.before a s = true := unparts (wk h (.code Cmp5.yN Cmp5.yB 7 (some .int))) (wks h (.initialized Cmp5.yN.cls :: Cmp5.site))
  have hc : CodL.tab.before a s = true := unparts (wk h (.code CodL.yN CodL.yB 2 (some .byte))) (wks h (.initialized CodL.yN.cls :: CodL.site))
  have q5 : ∀ w ∈ Cmp5.tab :: words, w.before a s = true := fun w hw => (List.mem_cons.mp hw).elim (fun e => e ▸ h5) (h w)
  have h3 : Cmp3.tab.before a s = true := unparts (wk q5 (.code Cmp3.yN Cmp3.yB 6 (some (.array .byte)))) (wks q5 (.initialized Cmp3.yN.cls :: Cmp3.site))
  have q3 : ∀ w ∈ Cmp3.tab :: CodL.tab :: words, w.before a s = true := fun w hw => (List.mem_cons.mp hw).elim (fun e => e ▸ h3) fun hw => (List.mem_cons.mp hw).elim (fun e => e ▸ hc) (h w)
  have h4 : New4.tab.before a s = true := unparts (wk q3 (.code New4.yN New4.yB 6 none)) (wks q3 (.initialized New4.yN.cls :: New4.site))
  have q4 : ∀ w ∈ New4.tab :: words, w.before a s = true := fun w hw => (List.mem_cons.mp hw).elim (fun e => e ▸ h4) (h w)
  exact unparts (wk q4 (.code New1.yN New1.yB 2 none)) (wks q4 (.initialized New1.yN.cls :: New1.site))
/-- the words ride from the start Z to the walk's own state -/
theorem moved {Z s : State} {a0 args : Array Value} (hZ : Z.Warmed39 s.vm) (hw : ∀ d ∈ words, d.before a0 Z = true) : ∀ d ∈ words, d.before args s = true := fun d hd => by
  have q := hw d hd
  have t : ∀ d ∈ words, d = .arrayClass .byte ∨ (d.onTables && d.keepsFace) = true := by decide +kernel
  rcases t d hd with rfl | t
  · exact RoadKit.mvA hZ q
  · exact RoadKit.mv hZ q t
/-- WHAT COMES BACK, over the tables of the start Z: h the heap at the call, h' behind it -/
def Q (Z : State) (x : Addr) (A : Cell) (h : Heap) (v : Option Value) (h' : Heap) (L : List Loc) : Prop := v = none ∧ (∀ y ∈ L, y.base = x) ∧ RoadKit.Keep h h' [x] ∧ h'.size = h.size + 1 ∧ RoadKit.Exa Z h' x ST ∧ RoadKit.Fld Z h' x ST "value" "[B" (.ref h.size) ∧ RoadKit.Fld Z h' x ST "coder" "B" (.int 0) ∧
  (∃ V : Cell, RoadKit.Arr Z h' h.size V .byte ∧ V.vm = .none ∧ Z.vm.findClass "[B" = some V.cls ∧ V.slots.size = A.slots.size ∧ ∀ j, j < A.slots.size → V.slots[j]? = some (.int (lo8 (cv A j)))) ∧
  ∀ (O n d : String) (w : Value), RoadKit.Fld Z h x O n d w → RoadKit.slotOf Z O n d ≠ RoadKit.slotOf Z ST "value" "[B" → RoadKit.slotOf Z O n d ≠ RoadKit.slotOf Z ST "coder" "B" → RoadKit.Fld Z h' x O n d w
/-- **new String(chars) AT A CALL, IN THE ROAD'S FORM**: for specialBack behind newO: x the fresh String, b the char[] with the cell A -/
theorem back {p : Program} {l : Launch} {e : Env} {R : Room} {s : State} {args : Array Value} {below : List Frame} {len W : Nat} {Z : State} {a0 : Array Value} {h : Heap} (hZ : Z.Warmed39 s.vm) (hw : ∀ d ∈ words, d.before a0 Z = true) {kI : Nat} (wi : (Jvm.Cond.instantiable ST kI).before a0 Z = true)
    {x b : Addr} {A : Cell} {z : Int32} {v0 c0 : Value} (E : RoadKit.Exa Z h x ST) (V : RoadKit.Fld Z h x ST "value" "[B" v0) (C : RoadKit.Fld Z h x ST "coder" "B" c0) (K : RoadKit.Arr Z h b A .char) (hty : Typed .char A) (S : RoadKit.Sta Z h ST "COMPACT_STRINGS" "Z" (.int z)) (hz : ¬ z = 0)
    (l0 : 0 < A.slots.size) (l2 : A.slots.size ≤ 536870912) (hp : ∀ i, i < A.slots.size → ¬ 255 < cv A i) (hfr : 4 ≤ R.frames) (hlo : W + 65 ≤ R.locals) :
    Back l R p e below s args New1.yN len W (fun P a => a = #[.ref x, .ref b] ∧ P.U.heap = h ∧ P.cells + 1 ≤ R.cells ∧ P.slots + A.slots.size ≤ R.slots)
      (fun P _ v B => ∃ L, Q Z x A h v B.U.heap L ∧ B.locs = P.locs ++ L ∧ B.cells = P.cells + 1 ∧ B.slots = P.slots + A.slots.size) := by
  intro m meth c P g ig mk a X hg hsize hdg hW hn hp'
  obtain ⟨rfl, rfl, r1, r2⟩ := hp'
  have al : Z.vm.Alike P.U.vm := hZ.alike.trans X.warmed.alike
  obtain ⟨D, cfV, kV, iV, fV, hD, gV, stV, knV, obV, asV, slV⟩ := id V
  obtain ⟨D', cfC, kC, iC, fC, hD', gC, stC, -, -, asC, slC⟩ := id C
  cases hD.symm.trans hD'
  obtain ⟨D2, kD, e1, e2, e3, e4, e5⟩ := id E
  cases hD.symm.trans e1
  obtain ⟨c2, k2, i1, i2, i3, -⟩ := Cond.instantiable_spec wi
  cases e2.symm.trans i1
  cases e3.symm.trans i2
  obtain ⟨kU, u1, u2⟩ := al.2.2 _ _ e3
  have hB : Blank ST x D P.U := ⟨hD, ⟨knV, fun q hq => by rw [hq] at obV; cases obV⟩, by rw [al.findClass]; exact e2, kU, u1, by rw [u2]; exact i3, by rw [u2]; exact e5 i3⟩
  have F1 : Found ST "value" "[B" fV P.U := ⟨SBG.found_only al ⟨cfV, kV, iV, gV⟩, stV⟩
  have F2 : Found ST "coder" "B" fC P.U := ⟨SBG.found_only al ⟨cfC, kC, iC, gC⟩, stC⟩
  have hA : Ch b A P.U := ⟨⟨K.1, State.isArrayOf_alike al K.2.1, K.2.2, by omega⟩, hty⟩
  have hS : StaticIs P.U ST "COMPACT_STRINGS" "Z" (.int z) := by
    obtain ⟨cfS, iS, kS, fS, st, cS, t1, t2, t3, t4, t5, t6, t7⟩ := S
    exact StaticIs.there (s := { Z with heap := P.U.heap }) ⟨cfS, iS, kS, fS, st, cS, t1, t2, t3, t4, t5, (fun q => by rw [q] at t6; cases t6), t7⟩ al rfl
  obtain ⟨v, B, X', ⟨⟨hv, E', V', q1, q2, q3, q4, q5, q6, q7, q8, q9, q10, q11⟩, hl, hc, hs⟩, st⟩ := New1.pays x D fV fC b A z (tab_of (moved hZ hw)) hfr hlo m meth c P g ig mk _ X hg hsize hdg hW hn ⟨r1, r2, rfl, hB, F1, F2, hA, hS, hz, l0, l2, hp⟩
  have al' : Z.vm.Alike B.U.vm := hZ.alike.trans X'.warmed.alike
  have hsz : E'.slots.size = D.slots.size := by
    obtain ⟨-, -, -, kB, w1, w2, w3⟩ := q1
    obtain ⟨kB', y1, y2⟩ := al'.2.2 _ _ e3
    rw [q2.2.1] at w1
    cases w1.symm.trans y1
    rw [w3, e5 i3, y2]
  refine ⟨v, B, X', ⟨_, ⟨hv, ?_, ⟨by omega, fun y cy hy hn' => q10 y cy (by simpa using hn') hy, fun y cy hy => ?_⟩, q11, ⟨E', _, q1.1, by rw [q2.2.1]; exact e2, by rw [q2.2.1]; exact e3, by rw [q2.1]; exact obV, fun _ => by rw [hsz]; exact e5 i3⟩,
    ⟨E', cfV, kV, iV, fV, q1.1, gV, stV, by rw [q2.1]; exact knV, by rw [q2.1]; exact obV, by rw [q2.2.1]; exact asV, q3⟩, ⟨E', cfC, kC, iC, fC, q1.1, gC, stC, by rw [q2.1]; exact knV, by rw [q2.1]; exact obV, by rw [q2.2.1]; exact asC, q4⟩,
    ⟨V', ⟨q5.1, State.isArrayOf_alike al'.symm q5.2.1, q5.2.2.1⟩, q6, by rw [← al'.findClass]; exact q7, q8, fun j hj => by have := q9 j hj; rwa [Nat.zero_add] at this⟩, fun O n d w F n1 n2 => ?_⟩, hl, hc, hs⟩, st⟩
  · intro y hy
    simp only [List.mem_cons, List.not_mem_nil, or_false] at hy
    rcases hy with rfl | rfl <;> rfl
  · by_cases q : y = x
    · subst q
      cases hD.symm.trans hy
      exact ⟨E', q1.1, q2.2.1, q2.1, hsz⟩
    · exact ⟨cy, q10 y cy q hy, rfl, rfl, rfl⟩
  · obtain ⟨D3, cf, k, i, f, g1, g2, g3, g4, g5, g6, g7⟩ := F
    cases hD.symm.trans g1
    simp only [RoadKit.slotOf, g2, gV, gC, Option.map_some, Option.getD_some] at n1 n2
    exact ⟨E', cf, k, i, f, q1.1, g2, g3, by rw [q2.1]; exact g4, by rw [q2.1]; exact g5, by rw [q2.2.1]; exact g6, by rw [q2.2.2 f.slot (by simp [n1, n2])]; exact g7⟩
end StrChars.Road
namespace StrChars.Road
open Jvm Sem ClassFile Op Lib Jvm.Stand Jvm.Free Jvm.Free.XT
/-- WHAT COMES BACK, the byte[] as a list of values -/
def QA (Z : State) (x : Addr) (zn : Int32) (cs : List Int32) (h : Heap) (v : Option Value) (h' : Heap) (L : List Loc) : Prop := v = none ∧ (∀ y ∈ L, y.base = x) ∧ RoadKit.Keep h h' [x] ∧ h'.size = h.size + 1 ∧ RoadKit.Exa Z h' x ST ∧ RoadKit.Fld Z h' x ST "value" "[B" (.ref h.size) ∧ RoadKit.Fld Z h' x ST "coder" "B" (.int 0) ∧
  (∃ kb, Z.vm.findClass "[B" = some kb ∧ RoadKit.Arv Z h' h.size kb .byte zn (cs.map fun c => .int (lo8 c)) (.int 0)) ∧
  ∀ (O n d : String) (w : Value), RoadKit.Fld Z h x O n d w → RoadKit.slotOf Z O n d ≠ RoadKit.slotOf Z ST "value" "[B" → RoadKit.slotOf Z O n d ≠ RoadKit.slotOf Z ST "coder" "B" → RoadKit.Fld Z h' x O n d w
/-- **new String(chars) AT A CALL, THE ARRAYS AS LISTS**: the char[] at b holds cs, not empty, no char above 255 -/
theorem backArv {p : Program} {l : Launch} {e : Env} {R : Room} {s : State} {args : Array Value} {below : List Frame} {len W : Nat} {Z : State} {a0 : Array Value} {h : Heap} (hZ : Z.Warmed39 s.vm) (hw : ∀ d ∈ words, d.before a0 Z = true) {kI : Nat} (wi : (Jvm.Cond.instantiable ST kI).before a0 Z = true)
    {x b : Addr} {k : ClassId} {zn z : Int32} {cs : List Int32} {dv v0 c0 : Value} (E : RoadKit.Exa Z h x ST) (V : RoadKit.Fld Z h x ST "value" "[B" v0) (C : RoadKit.Fld Z h x ST "coder" "B" c0) (K : RoadKit.Arv Z h b k .char zn (cs.map Value.int) dv) (S : RoadKit.Sta Z h ST "COMPACT_STRINGS" "Z" (.int z)) (hz : ¬ z = 0)
    (hlen : zn.toNatClampNeg = cs.length) (h0 : 0 < cs.length) (hbig : cs.length ≤ 536870912) (hall : ∀ c ∈ cs, ¬ 255 < c) (hfr : 4 ≤ R.frames) (hlo : W + 65 ≤ R.locals) :
    Back l R p e below s args New1.yN len W (fun P a => a = #[.ref x, .ref b] ∧ P.U.heap = h ∧ P.cells + 1 ≤ R.cells ∧ P.slots + cs.length ≤ R.slots)
      (fun P _ v B => ∃ L, QA Z x zn cs h v B.U.heap L ∧ B.locs = P.locs ++ L ∧ B.cells = P.cells + 1 ∧ B.slots = P.slots + cs.length) := by
  obtain ⟨A, K1, K2, K3, K4, K5, K6⟩ := K
  have e : A.slots.size = cs.length := K3.trans hlen
  have hat : ∀ (i : Nat) (hi : i < cs.length), A.slots[i]? = some (.int cs[i]) := fun i hi => by rw [K5 i (by omega)]; simp [List.getD_eq_getElem?_getD, hi]
  have hcv : ∀ (i : Nat) (hi : i < cs.length), cv A i = cs[i] := fun i hi => by unfold cv; rw [hat i hi]
  have hty : Typed .char A := fun i v hv => by
    have hi : i < A.slots.size := (Array.getElem?_eq_some_iff.mp hv).1
    have q := K5 i hi
    rw [hv] at q
    rw [Option.some.inj q]
    exact K6 i hi
  refine Back.mono (back hZ hw wi E V C K1 hty S hz (by omega) (by omega) (fun i hi => by rw [hcv i (by omega)]; exact hall _ (List.getElem_mem _)) hfr hlo) (fun P a hp => ⟨hp.1, hp.2.1, hp.2.2.1, by rw [e]; exact hp.2.2.2⟩) (fun P a v B hp hq => ?_)
  obtain ⟨L, ⟨q1, q2, q3, q4, q5, q6, q7, ⟨V', v1, v2, v3, v4, v5⟩, q9⟩, hl, hc, hs⟩ := hq
  refine ⟨L, ⟨q1, q2, q3, q4, q5, q6, q7, ⟨V'.cls, v3, V', v1, rfl, by rw [v4, e, hlen], K4, fun i hi => ?_, fun i hi => ?_⟩, q9⟩, hl, hc, by rw [hs, e]⟩
  · have hi' : i < cs.length := by omega
    rw [v5 i (by omega), hcv i hi']; simp [List.getD_eq_getElem?_getD, hi']
  · have hi' : i < cs.length := by omega
    simp only [List.getD_eq_getElem?_getD, List.getElem?_map, List.getElem?_eq_getElem hi', Option.map_some, Option.getD_some]
    exact fits_lo8 _
end StrChars.Road
namespace StrChars.Road
open Jvm Sem ClassFile Op Lib Jvm.Stand Jvm.Free Jvm.Free.XT
/-- WHAT COMES BACK, in the writer's own shape -/
def QV (Z : State) (x : Addr) (N : Int32) (bs : List Int32) (h : Heap) (n0 : Nat) (v : Option Value) (h' : Heap) (L : List Loc) : Prop := v = none ∧ RoadKit.Fr n0 L ∧ RoadKit.Keep h h' [x] ∧ RoadKit.Exa Z h' x ST ∧ RoadKit.Fld Z h' x ST "coder" "B" (.int 0) ∧
  ∃ (t : Addr) (kb : ClassId), n0 ≤ t ∧ h.size ≤ t ∧ ¬ t = x ∧ RoadKit.Fld Z h' x ST "value" "[B" (.ref t) ∧ RoadKit.Arv Z h' t kb .byte N (bs.map Value.int) (.int 0)
/-- **new String(chars) AT A CALL, FOR THE WRITER**: a char[] of n known ints, each 0 to 255 -/
theorem backV {p : Program} {l : Launch} {e : Env} {R : Room} {s : State} {args : Array Value} {below : List Frame} {len W : Nat} {Z : State} {a0 : Array Value} {h : Heap} (hZ : Z.Warmed39 s.vm) (hw : ∀ d ∈ words, d.before a0 Z = true) {kI : Nat} (wi : (Jvm.Cond.instantiable ST kI).before a0 Z = true)
    {x b : Addr} {kC : ClassId} {cs bs : List Int32} {d v0 c0 : Value} {z N : Int32} {n n0 : Nat} (hx0 : n0 ≤ x) (hh0 : n0 ≤ h.size) (E : RoadKit.Exa Z h x ST) (V : RoadKit.Fld Z h x ST "value" "[B" v0) (C : RoadKit.Fld Z h x ST "coder" "B" c0) (K : RoadKit.Arv Z h b kC .char N (cs.map Value.int) d) (S : RoadKit.Sta Z h ST "COMPACT_STRINGS" "Z" (.int z)) (hz : ¬ z = 0)
    (hn : cs.length = n) (hN : N = Int32.ofNat n) (l0 : 0 < n) (l2 : n ≤ 4000) (hp : ∀ c ∈ cs, ¬ c < 0 ∧ ¬ (255 : Int32) < c) (hb : bs = cs.map (fun c => c.toInt8.toInt32)) (hfr : 4 ≤ R.frames) (hlo : W + 65 ≤ R.locals) :
    Back l R p e below s args (⟨"java/lang/String", "<init>", "([C)V"⟩ : MethodName) len W (fun P a => a = #[.ref x, .ref b] ∧ P.U.heap = h ∧ P.cells + 1 ≤ R.cells ∧ P.slots + n ≤ R.slots)
      (fun P _ v B => ∃ L, QV Z x N bs h n0 v B.U.heap L ∧ B.locs = P.locs ++ L ∧ B.cells = P.cells + 1 ∧ B.slots = P.slots + n) := by
  subst hn hN hb
  refine Back.mono (backArv hZ hw wi E V C K S hz (n32 (by omega)) l0 (by omega) (fun c hc => (hp c hc).2) hfr hlo) (fun P a hp => hp) (fun P a v B hp hq => ?_)
  obtain ⟨L, ⟨q1, q2, q3, q4, q5, q6, q7, ⟨kb, v1, v2⟩, q9⟩, hl, hc, hs⟩ := hq
  exact ⟨L, ⟨q1, fun y hy => by rw [q2 y hy]; exact hx0, q3, q5, q7, h.size, kb, hh0, Nat.le_refl _, Nat.ne_of_gt E.lt, q6, by rw [List.map_map]; exact v2⟩, hl, hc, hs⟩
end StrChars.Road
end Jvm.Pilot.@@N@@
namespace Jvm.Pilot.@@N@@
open Jvm Jvm.ClassFile Sem Op Lib Jvm.Free Jvm.Stand Jvm.LawKit Jvm.RoadKit Bundle Jvm.Pilot.@@N@@.Jvm.D
-- own prelude: a walk as a chain of goals Go (from here the method comes to its end, and Fin holds there)
def PT (W : Bool) (EL : List (String × Nat)) (Z : State) (a0 : Array Value) (own : String) (p : Program) (l : Launch) (e : Env) (R : Room) (s : State) (m : MethodId) (args : Array Value) (below : List Frame) (meth : Method) (c : Code) (T : State) (h : Heap) (cells slots : Nat) : Prop :=
  ∃ (vm0 : Vm) (k0 : Nat) (locs : List Loc), (W = false → vm0 = s.vm) ∧ Stand p l e R (s.setVm vm0) m args below meth c T locs cells slots ∧ T.heap = h ∧ p.tables.exec = Jvm.exec ∧ Z.Warmed39 vm0 ∧ vm0.findClass own = some m.cls ∧ s.Since vm0 k0 ∧ k0 ≤ h.size ∧ EW Z a0 EL ∧ CHr Z EL s.vm s.heap vm0 h ∧ Fr Z.heap.size locs ∧ Old Z Z.heap.size h
def Go (W : Bool) (EL : List (String × Nat)) (Z : State) (a0 : Array Value) (own : String) (p : Program) (l : Launch) (e : Env) (R : Room) (s : State) (m : MethodId) (args : Array Value) (below : List Frame) (meth : Method) (c : Code) (F : Outcome → State → Prop) (h : Heap) (cells slots : Nat) (g : JFrame) : Prop :=
  ∀ T, PT W EL Z a0 own p l e R s m args below meth c T h cells slots → ∃ t o, Steps p.tables e below (T.setTop g) t ∧ t.status = .running ∧ Ended t below o ∧ F o t
def Fend (W : Bool) (EL : List (String × Nat)) (Z : State) (s : State) (h0 : Heap) (ws : List Addr) (Q : Option Value → Heap → Prop) (dc ds : Nat) (o : Outcome) (t : State) : Prop :=
  ∃ v L, o = .returned v ∧ (Q v t.heap ∧ Fr Z.heap.size L ∧ Keep h0 t.heap ws) ∧ (W = true → CHr Z EL s.vm s.heap t.vm t.heap ∧ ReturnedEndW s o t L dc ds) ∧ (W = false → FrameEnd s o t L dc ds)
def Con (W : Bool) (EL : List (String × Nat)) (l : Launch) (Z : State) (y : MethodName) (bytes : ByteArray) (maxL : Nat) (ret : Option FieldType) (wl : List Jvm.Cond) (rm : Room) (as' : Array Value) (h : Heap) (ws : List Addr) (Q : Option Value → Heap → Prop) : Prop :=
  MetFree l y (head1 (Jvm.Cond.code y bytes maxL ret :: wl) rm) (fun a U => a = as' ∧ Z.Warmed39 U.vm ∧ U.heap = h ∧ (W = true → CHv Z EL U.vm h)) (fun _ _ _ _ _ => True) (fun _ U o U' => Fend W EL Z U h ws Q rm.cells rm.slots o U')
def rvl (Q : Value → Heap → Prop) (v : Option Value) (h : Heap) : Prop := ∃ x, v = some x ∧ Q x h
def rno (Q : Heap → Prop) (v : Option Value) (h : Heap) : Prop := v = none ∧ Q h
def Pay (l : Launch) (R : Room) (p : Program) (e : Env) (below : List Frame) (Z : State) (y : MethodName) (Wd : Nat) (as' : Array Value) (h : Heap) (dc ds : Nat) (ws : List Addr) (Q : Option Value → Heap → Prop) : Prop :=
  ∀ (s : State) (args : Array Value), Z.Warmed39 s.vm → Back l R p e below s args y 3 Wd (fun A a => a = as' ∧ A.U.heap = h ∧ A.cells + dc ≤ R.cells ∧ A.slots + ds ≤ R.slots) (fun A _ v B => ∃ L, (Q v B.U.heap ∧ Fr Z.heap.size L ∧ Keep h B.U.heap ws) ∧ B.locs = A.locs ++ L ∧ B.cells = A.cells + dc ∧ B.slots = A.slots + ds)
def PayW (EL : List (String × Nat)) (l : Launch) (R : Room) (p : Program) (e : Env) (below : List Frame) (Z : State) (y : MethodName) (Wd : Nat) (as' : Array Value) (h : Heap) (dc ds : Nat) (ws : List Addr) (Q : Option Value → Heap → Prop) : Prop :=
  ∀ (s : State) (vm0 : Vm) (args : Array Value), Z.Warmed39 vm0 → CHv Z EL vm0 h → BackS l R p e below (s.setVm vm0) args y 3 Wd (fun A a => a = as' ∧ A.U.heap = h ∧ A.cells + dc ≤ R.cells ∧ A.slots + ds ≤ R.slots) (fun A _ v B => ∃ L, (Q v B.U.heap ∧ Fr Z.heap.size L ∧ Keep h B.U.heap ws) ∧ B.locs = A.locs ++ L ∧ B.cells = A.cells + dc ∧ B.slots = A.slots + ds ∧ CHr Z EL vm0 h B.U.vm B.U.heap)
section Own
variable {W : Bool} {EL : List (String × Nat)} {Z : State} {a0 : Array Value} {own : String} {p : Program} {l : Launch} {e : Env} {R : Room} {s : State} {m : MethodId} {args : Array Value} {below : List Frame} {meth : Method} {c : Code} {F : Outcome → State → Prop} {h : Heap} {cells slots cells' slots' : Nat} {pc pc' : Nat} {ls ls' : Array Slot} {st : List Value}
theorem safe_nil {vm : Vm} {x : Addr} : Safe Z [] vm h x := fun ⟨_, hp, _⟩ => nomatch hp
theorem chv_nil {vm : Vm} : CHv Z [] vm h := fun _ hp => nomatch hp
theorem con_of {y : MethodName} {bytes : ByteArray} {maxL : Nat} {ret : Option FieldType} {wl : List Jvm.Cond} {rm : Room} {as' : Array Value} {ws : List Addr} {Q : Option Value → Heap → Prop} (hname : plainName y.cls = true) (hWE : W = false → EL = []) (hEL : EW Z a0 EL) (hO : Old Z Z.heap.size h) (hef : ∀ m, entryFrame m as' maxL = mkF m 0 ls [])
    (body : ∀ (p : Program) (e : Env) (s : State) (m : MethodId) (below : List Frame) (meth : Method) (c : Code), c.code = bytes → c.maxLocals = maxL → meth.sig.returnType = ret → meth.locks = false → meth.name = y.name → Go W EL Z a0 y.cls p l e rm s m as' below meth c (Fend W EL Z s h ws Q rm.cells rm.slots) h 0 0 (mkF m 0 ls [])) :
    Con W EL l Z y bytes maxL ret wl rm as' h ws Q := by
  refine MetFree.of_bodySF (plainFor_of_name hname) hisR ?_
  intro p e s m args below meth c s₁ Bd hml hP _
  obtain ⟨rfl, hZ, hh, hC⟩ := hP
  have X0 : Stand p l e rm s m args below meth c s₁ [] 0 0 := Stand.of_body Bd
  have e0 : s₁.heap = h := by rw [← hh, Bd.state]; rfl
  have hown : s.vm.findClass y.cls = some m.cls := findClass_of_methodNamed Bd.named
  have hnm := (name_of_methodNamed Bd.named Bd.method).1
  have hcv : CHv Z EL s.vm h := by
    cases W
    · rw [hWE rfl]; exact chv_nil
    · exact hC rfl
  have hcr : CHr Z EL s.vm s.heap s.vm h := by rw [hh]; exact CHr.refl hcv
  obtain ⟨t, o, h1, h2⟩ := body p e s m below meth c Bd.bytes hml Bd.returns Bd.notSynchronized hnm s₁ ⟨s.vm, h.size, [], fun _ => rfl, X0, e0, Bd.exec, hZ, hown, (State.WarmedH.refl s).since _, Nat.le_refl _, hEL, hcr, Fr.nil _, hO⟩
  exact ⟨t, o, castTop (hef m) h1, h2⟩
theorem pay_of {y : MethodName} {bytes : ByteArray} {maxL : Nat} {ret : Option FieldType} {rm : Room} {as' : Array Value} {ws : List Addr} {Q : Option Value → Heap → Prop} {Wd : Nat} (hM : Con false [] l Z y bytes maxL ret [] rm as' h ws Q) (wc : (Jvm.Cond.code y bytes maxL ret).before a0 Z = true) (wz : (Jvm.Cond.initialized y.cls).before a0 Z = true) (hf : rm.frames + 1 ≤ R.frames) (hl : Wd + (maxL + 11) + rm.locals ≤ R.locals) :
    Pay l R p e below Z y Wd as' h rm.cells rm.slots ws Q := by
  intro s args hZ
  refine backOf (Q := fun v h' L => Q v h' ∧ Fr Z.heap.size L ∧ Keep h h' ws) ?_ hZ wc wz hf hl
  intro p e h1 h2 h3 s m args below h4 h5 h6 h7
  obtain ⟨n, o, q1, q2, q3, v, L, rfl, hq, -, hF⟩ := hM p e h1 h2 h3 s m args below h4 h5 ⟨h6.1, h6.2.1, h6.2.2, fun q => nomatch q⟩ h7
  exact ⟨n, _, q1, q2, q3, v, L, rfl, hq, hF rfl⟩
theorem payW_of {y : MethodName} {bytes : ByteArray} {maxL : Nat} {ret : Option FieldType} {rm : Room} {as' : Array Value} {ws : List Addr} {Q : Option Value → Heap → Prop} {Wd : Nat} (hM : Con true EL l Z y bytes maxL ret [] rm as' h ws Q) (wc : (Jvm.Cond.code y bytes maxL ret).before a0 Z = true) (wz : (Jvm.Cond.initialized y.cls).before a0 Z = true) (hf : rm.frames + 1 ≤ R.frames) (hl : Wd + (maxL + 11) + rm.locals ≤ R.locals) (hEL : EW Z a0 EL) :
    PayW EL l R p e below Z y Wd as' h rm.cells rm.slots ws Q := by
  intro s vm0 args hZ H
  refine backOfSH (Q := fun v h' L => Q v h' ∧ Fr Z.heap.size L ∧ Keep h h' ws) ?_ hZ wc wz hf hl hEL H
  intro p e h1 h2 h3 s m args below h4 h5 h6 h7
  obtain ⟨n, o, q1, q2, q3, v, L, rfl, hq, hC, -⟩ := hM p e h1 h2 h3 s m args below h4 h5 ⟨h6.1, h6.2.1, h6.2.2.1, fun _ => h6.2.2.2⟩ h7
  exact ⟨n, _, q1, q2, q3, v, L, rfl, hq, (hC rfl).1, (hC rfl).2⟩
theorem go_old {g0 : JFrame} (k : Old Z Z.heap.size h → Go W EL Z a0 own p l e R s m args below meth c F h cells slots (g0)) : Go W EL Z a0 own p l e R s m args below meth c F h cells slots (g0) := by
  intro T P
  exact k P.choose_spec.choose_spec.choose_spec.2.2.2.2.2.2.2.2.2.2.2 T P
theorem go_pure {g g' : JFrame} (stp : ∀ T : State, At T m c below → p.tables.exec = Jvm.exec → ∀ target, Steps p.tables e below (T.setTop g') target → Steps p.tables e below (T.setTop g) target) (k : Go W EL Z a0 own p l e R s m args below meth c F h cells slots (g')) : Go W EL Z a0 own p l e R s m args below meth c F h cells slots (g) := by
  intro T P
  obtain ⟨t, o, h1, h2⟩ := k T P
  obtain ⟨vm0, k0, locs, -, X, -, hx, -⟩ := P
  exact ⟨t, o, stp T X.here hx _ h1, h2⟩
theorem go_iconst {i : Int} {v : Int32} (hd : decode c.code pc = .ok (.iconst i, 1)) (hp : pc + 1 = pc') (hv : Int32.ofInt i = v) (k : Go W EL Z a0 own p l e R s m args below meth c F h cells slots (mkF m pc' ls (.int v :: st))) : Go W EL Z a0 own p l e R s m args below meth c F h cells slots (mkF m pc ls st) := by
  subst hp hv
  exact go_pure (fun T ha hx target hr => XS.iconst ha hx rfl hd hr) k
theorem go_bipush {i : Int} {v : Int32} (hd : decode c.code pc = .ok (.bipush i, 2)) (hp : pc + 2 = pc') (hv : (Int8.ofInt i).toInt32 = v) (k : Go W EL Z a0 own p l e R s m args below meth c F h cells slots (mkF m pc' ls (.int v :: st))) : Go W EL Z a0 own p l e R s m args below meth c F h cells slots (mkF m pc ls st) := by
  subst hp hv
  exact go_pure (fun T ha hx target hr => XS.bipush ha hx rfl hd hr) k
theorem go_sipush {i : Int} {v : Int32} (hd : decode c.code pc = .ok (.sipush i, 3)) (hp : pc + 3 = pc') (hv : (Int16.ofInt i).toInt32 = v) (k : Go W EL Z a0 own p l e R s m args below meth c F h cells slots (mkF m pc' ls (.int v :: st))) : Go W EL Z a0 own p l e R s m args below meth c F h cells slots (mkF m pc ls st) := by
  subst hp hv
  exact go_pure (fun T ha hx target hr => XS.sipush ha hx rfl hd hr) k
theorem go_aconst_null  (hd : decode c.code pc = .ok (.aconst_null, 1)) (hp : pc + 1 = pc')  (k : Go W EL Z a0 own p l e R s m args below meth c F h cells slots (mkF m pc' ls (.null :: st))) : Go W EL Z a0 own p l e R s m args below meth c F h cells slots (mkF m pc ls (st)) := by
  subst hp
  exact go_pure (fun T ha hx target hr => XS.aconstNull ha hx rfl hd hr) k
theorem go_aload_n {i : Fin 4} {v : Value} (hd : decode c.code pc = .ok (.aload_n i, 1)) (hp : pc + 1 = pc') (hl : ls[i.val]? = some (.val v)) (hv : v.isRef = true) (k : Go W EL Z a0 own p l e R s m args below meth c F h cells slots (mkF m pc' ls (v :: st))) : Go W EL Z a0 own p l e R s m args below meth c F h cells slots (mkF m pc ls (st)) := by
  subst hp
  exact go_pure (fun T ha hx target hr => XS.aloadN ha hx rfl hd hl hv hr) k
theorem go_aload {i : Nat} {v : Value} (hd : decode c.code pc = .ok (.aload i, 2)) (hp : pc + 2 = pc') (hl : ls[i]? = some (.val v)) (hv : v.isRef = true) (k : Go W EL Z a0 own p l e R s m args below meth c F h cells slots (mkF m pc' ls (v :: st))) : Go W EL Z a0 own p l e R s m args below meth c F h cells slots (mkF m pc ls (st)) := by
  subst hp
  exact go_pure (fun T ha hx target hr => XS.aload ha hx rfl hd hl hv hr) k
theorem go_iload_n {i : Fin 4} {v : Int32} (hd : decode c.code pc = .ok (.iload_n i, 1)) (hp : pc + 1 = pc') (hl : ls[i.val]? = some (.val (.int v))) (k : Go W EL Z a0 own p l e R s m args below meth c F h cells slots (mkF m pc' ls (.int v :: st))) : Go W EL Z a0 own p l e R s m args below meth c F h cells slots (mkF m pc ls (st)) := by
  subst hp
  exact go_pure (fun T ha hx target hr => XS.iloadN ha hx rfl hd hl hr) k
theorem go_iload {i : Nat} {v : Int32} (hd : decode c.code pc = .ok (.iload i, 2)) (hp : pc + 2 = pc') (hl : ls[i]? = some (.val (.int v))) (k : Go W EL Z a0 own p l e R s m args below meth c F h cells slots (mkF m pc' ls (.int v :: st))) : Go W EL Z a0 own p l e R s m args below meth c F h cells slots (mkF m pc ls (st)) := by
  subst hp
  exact go_pure (fun T ha hx target hr => XS.iload ha hx rfl hd hl hr) k
theorem go_lload_n {i : Fin 4} {v : Int64} (hd : decode c.code pc = .ok (.lload_n i, 1)) (hp : pc + 1 = pc') (hl : ls[i.val]? = some (.val (.long v))) (k : Go W EL Z a0 own p l e R s m args below meth c F h cells slots (mkF m pc' ls (.long v :: st))) : Go W EL Z a0 own p l e R s m args below meth c F h cells slots (mkF m pc ls (st)) := by
  subst hp
  exact go_pure (fun T ha hx target hr => XT.lloadN ha hx rfl hd hl hr) k
theorem go_lload {i : Nat} {v : Int64} (hd : decode c.code pc = .ok (.lload i, 2)) (hp : pc + 2 = pc') (hl : ls[i]? = some (.val (.long v))) (k : Go W EL Z a0 own p l e R s m args below meth c F h cells slots (mkF m pc' ls (.long v :: st))) : Go W EL Z a0 own p l e R s m args below meth c F h cells slots (mkF m pc ls (st)) := by
  subst hp
  exact go_pure (fun T ha hx target hr => XT.lload ha hx rfl hd hl hr) k
theorem go_istore_n {i : Fin 4} {v : Int32} (hd : decode c.code pc = .ok (.istore_n i, 1)) (hp : pc + 1 = pc') (hl : storeLocals ls i.val (.int v) = some ls') (k : Go W EL Z a0 own p l e R s m args below meth c F h cells slots (mkF m pc' ls' (st))) : Go W EL Z a0 own p l e R s m args below meth c F h cells slots (mkF m pc ls (.int v :: st)) := by
  subst hp
  exact go_pure (fun T ha hx target hr => XS.istoreN ha hx rfl hd rfl hl hr) k
theorem go_istore {i : Nat} {v : Int32} (hd : decode c.code pc = .ok (.istore i, 2)) (hp : pc + 2 = pc') (hl : storeLocals ls i (.int v) = some ls') (k : Go W EL Z a0 own p l e R s m args below meth c F h cells slots (mkF m pc' ls' (st))) : Go W EL Z a0 own p l e R s m args below meth c F h cells slots (mkF m pc ls (.int v :: st)) := by
  subst hp
  exact go_pure (fun T ha hx target hr => XS.istore ha hx rfl hd rfl hl hr) k
theorem go_astore_n {i : Fin 4} {v : Value} (hd : decode c.code pc = .ok (.astore_n i, 1)) (hp : pc + 1 = pc') (hv : v.isRef = true) (hl : storeLocals ls i.val v = some ls') (k : Go W EL Z a0 own p l e R s m args below meth c F h cells slots (mkF m pc' ls' (st))) : Go W EL Z a0 own p l e R s m args below meth c F h cells slots (mkF m pc ls (v :: st)) := by
  subst hp
  exact go_pure (fun T ha hx target hr => XS.astoreN ha hx rfl hd rfl hv hl hr) k
theorem go_astore {i : Nat} {v : Value} (hd : decode c.code pc = .ok (.astore i, 2)) (hp : pc + 2 = pc') (hv : v.isRef = true) (hl : storeLocals ls i v = some ls') (k : Go W EL Z a0 own p l e R s m args below meth c F h cells slots (mkF m pc' ls' (st))) : Go W EL Z a0 own p l e R s m args below meth c F h cells slots (mkF m pc ls (v :: st)) := by
  subst hp
  exact go_pure (fun T ha hx target hr => XS.astore ha hx rfl hd rfl hv hl hr) k
theorem go_lstore_n {i : Fin 4} {v : Int64} (hd : decode c.code pc = .ok (.lstore_n i, 1)) (hp : pc + 1 = pc') (hl : storeLocals ls i.val (.long v) = some ls') (k : Go W EL Z a0 own p l e R s m args below meth c F h cells slots (mkF m pc' ls' (st))) : Go W EL Z a0 own p l e R s m args below meth c F h cells slots (mkF m pc ls (.long v :: st)) := by
  subst hp
  exact go_pure (fun T ha hx target hr => XT.lstoreN ha hx rfl hd rfl hl hr) k
theorem go_lstore {i : Nat} {v : Int64} (hd : decode c.code pc = .ok (.lstore i, 2)) (hp : pc + 2 = pc') (hl : storeLocals ls i (.long v) = some ls') (k : Go W EL Z a0 own p l e R s m args below meth c F h cells slots (mkF m pc' ls' (st))) : Go W EL Z a0 own p l e R s m args below meth c F h cells slots (mkF m pc ls (.long v :: st)) := by
  subst hp
  exact go_pure (fun T ha hx target hr => XT.lstore ha hx rfl hd rfl hl hr) k
theorem go_iadd {x y z : Int32} (hd : decode c.code pc = .ok (.iadd, 1)) (hp : pc + 1 = pc') (hz : x + y = z) (k : Go W EL Z a0 own p l e R s m args below meth c F h cells slots (mkF m pc' ls (.int z :: st))) : Go W EL Z a0 own p l e R s m args below meth c F h cells slots (mkF m pc ls (.int y :: .int x :: st)) := by
  subst hp hz
  exact go_pure (fun T ha hx target hr => XS.iadd ha hx rfl hd rfl hr) k
theorem go_isub {x y z : Int32} (hd : decode c.code pc = .ok (.isub, 1)) (hp : pc + 1 = pc') (hz : x - y = z) (k : Go W EL Z a0 own p l e R s m args below meth c F h cells slots (mkF m pc' ls (.int z :: st))) : Go W EL Z a0 own p l e R s m args below meth c F h cells slots (mkF m pc ls (.int y :: .int x :: st)) := by
  subst hp hz
  exact go_pure (fun T ha hx target hr => XS.isub ha hx rfl hd rfl hr) k
theorem go_imul {x y z : Int32} (hd : decode c.code pc = .ok (.imul, 1)) (hp : pc + 1 = pc') (hz : x * y = z) (k : Go W EL Z a0 own p l e R s m args below meth c F h cells slots (mkF m pc' ls (.int z :: st))) : Go W EL Z a0 own p l e R s m args below meth c F h cells slots (mkF m pc ls (.int y :: .int x :: st)) := by
  subst hp hz
  exact go_pure (fun T ha hx target hr => XS.imul ha hx rfl hd rfl hr) k
theorem go_iand {x y z : Int32} (hd : decode c.code pc = .ok (.iand, 1)) (hp : pc + 1 = pc') (hz : x &&& y = z) (k : Go W EL Z a0 own p l e R s m args below meth c F h cells slots (mkF m pc' ls (.int z :: st))) : Go W EL Z a0 own p l e R s m args below meth c F h cells slots (mkF m pc ls (.int y :: .int x :: st)) := by
  subst hp hz
  exact go_pure (fun T ha hx target hr => XS.iand ha hx rfl hd rfl hr) k
theorem go_ior {x y z : Int32} (hd : decode c.code pc = .ok (.ior, 1)) (hp : pc + 1 = pc') (hz : x ||| y = z) (k : Go W EL Z a0 own p l e R s m args below meth c F h cells slots (mkF m pc' ls (.int z :: st))) : Go W EL Z a0 own p l e R s m args below meth c F h cells slots (mkF m pc ls (.int y :: .int x :: st)) := by
  subst hp hz
  exact go_pure (fun T ha hx target hr => XT.ior ha hx rfl hd rfl hr) k
theorem go_ixor {x y z : Int32} (hd : decode c.code pc = .ok (.ixor, 1)) (hp : pc + 1 = pc') (hz : x ^^^ y = z) (k : Go W EL Z a0 own p l e R s m args below meth c F h cells slots (mkF m pc' ls (.int z :: st))) : Go W EL Z a0 own p l e R s m args below meth c F h cells slots (mkF m pc ls (.int y :: .int x :: st)) := by
  subst hp hz
  exact go_pure (fun T ha hx target hr => XT.ixor ha hx rfl hd rfl hr) k
theorem go_ishl {x y z : Int32} (hd : decode c.code pc = .ok (.ishl, 1)) (hp : pc + 1 = pc') (hz : x <<< (y &&& 31) = z) (k : Go W EL Z a0 own p l e R s m args below meth c F h cells slots (mkF m pc' ls (.int z :: st))) : Go W EL Z a0 own p l e R s m args below meth c F h cells slots (mkF m pc ls (.int y :: .int x :: st)) := by
  subst hp hz
  exact go_pure (fun T ha hx target hr => XT.ishl ha hx rfl hd rfl hr) k
theorem go_ishr {x y z : Int32} (hd : decode c.code pc = .ok (.ishr, 1)) (hp : pc + 1 = pc') (hz : x >>> (y &&& 31) = z) (k : Go W EL Z a0 own p l e R s m args below meth c F h cells slots (mkF m pc' ls (.int z :: st))) : Go W EL Z a0 own p l e R s m args below meth c F h cells slots (mkF m pc ls (.int y :: .int x :: st)) := by
  subst hp hz
  exact go_pure (fun T ha hx target hr => XT.ishr ha hx rfl hd rfl hr) k
theorem go_iushr {x y z : Int32} (hd : decode c.code pc = .ok (.iushr, 1)) (hp : pc + 1 = pc') (hz : XT.ushr x y = z) (k : Go W EL Z a0 own p l e R s m args below meth c F h cells slots (mkF m pc' ls (.int z :: st))) : Go W EL Z a0 own p l e R s m args below meth c F h cells slots (mkF m pc ls (.int y :: .int x :: st)) := by
  subst hp hz
  exact go_pure (fun T ha hx target hr => XT.iushr ha hx rfl hd rfl hr) k
theorem go_idiv {x y z : Int32} (hd : decode c.code pc = .ok (.idiv, 1)) (hp : pc + 1 = pc') (hy : y ≠ 0) (hz : x / y = z) (k : Go W EL Z a0 own p l e R s m args below meth c F h cells slots (mkF m pc' ls (.int z :: st))) : Go W EL Z a0 own p l e R s m args below meth c F h cells slots (mkF m pc ls (.int y :: .int x :: st)) := by
  subst hp hz
  exact go_pure (fun T ha hx target hr => XS.idiv ha hx rfl hd rfl hy hr) k
theorem go_irem {x y z : Int32} (hd : decode c.code pc = .ok (.irem, 1)) (hp : pc + 1 = pc') (hy : y ≠ 0) (hz : x % y = z) (k : Go W EL Z a0 own p l e R s m args below meth c F h cells slots (mkF m pc' ls (.int z :: st))) : Go W EL Z a0 own p l e R s m args below meth c F h cells slots (mkF m pc ls (.int y :: .int x :: st)) := by
  subst hp hz
  intro T P
  obtain ⟨t, o, h1, h2⟩ := k T P
  obtain ⟨vm0, k0, locs, -, X, -, hx, -⟩ := P
  exact ⟨t, o, iremM X hx rfl hd rfl hy h1, h2⟩
theorem go_ineg {x : Int32} {z : Int32} (hd : decode c.code pc = .ok (.ineg, 1)) (hp : pc + 1 = pc') (hz : -x = z) (k : Go W EL Z a0 own p l e R s m args below meth c F h cells slots (mkF m pc' ls (.int z :: st))) : Go W EL Z a0 own p l e R s m args below meth c F h cells slots (mkF m pc ls (.int x :: st)) := by
  subst hp hz
  exact go_pure (fun T ha hx target hr => XS.ineg ha hx rfl hd rfl hr) k
theorem go_i2c {x : Int32} {z : Int32} (hd : decode c.code pc = .ok (.i2c, 1)) (hp : pc + 1 = pc') (hz : x.toUInt32.toUInt16.toUInt32.toInt32 = z) (k : Go W EL Z a0 own p l e R s m args below meth c F h cells slots (mkF m pc' ls (.int z :: st))) : Go W EL Z a0 own p l e R s m args below meth c F h cells slots (mkF m pc ls (.int x :: st)) := by
  subst hp hz
  exact go_pure (fun T ha hx target hr => XT.i2c ha hx rfl hd rfl hr) k
theorem go_i2b {x : Int32} {z : Int32} (hd : decode c.code pc = .ok (.i2b, 1)) (hp : pc + 1 = pc') (hz : x.toInt8.toInt32 = z) (k : Go W EL Z a0 own p l e R s m args below meth c F h cells slots (mkF m pc' ls (.int z :: st))) : Go W EL Z a0 own p l e R s m args below meth c F h cells slots (mkF m pc ls (.int x :: st)) := by
  subst hp hz
  exact go_pure (fun T ha hx target hr => XT.i2b ha hx rfl hd rfl hr) k
theorem go_i2l {x : Int32} {z : Int64} (hd : decode c.code pc = .ok (.i2l, 1)) (hp : pc + 1 = pc') (hz : x.toInt64 = z) (k : Go W EL Z a0 own p l e R s m args below meth c F h cells slots (mkF m pc' ls (.long z :: st))) : Go W EL Z a0 own p l e R s m args below meth c F h cells slots (mkF m pc ls (.int x :: st)) := by
  subst hp hz
  exact go_pure (fun T ha hx target hr => XT.i2l ha hx rfl hd rfl hr) k
theorem go_l2i {x : Int64} {z : Int32} (hd : decode c.code pc = .ok (.l2i, 1)) (hp : pc + 1 = pc') (hz : x.toInt32 = z) (k : Go W EL Z a0 own p l e R s m args below meth c F h cells slots (mkF m pc' ls (.int z :: st))) : Go W EL Z a0 own p l e R s m args below meth c F h cells slots (mkF m pc ls (.long x :: st)) := by
  subst hp hz
  exact go_pure (fun T ha hx target hr => XT.l2i ha hx rfl hd rfl hr) k
theorem go_lneg {x : Int64} {z : Int64} (hd : decode c.code pc = .ok (.lneg, 1)) (hp : pc + 1 = pc') (hz : -x = z) (k : Go W EL Z a0 own p l e R s m args below meth c F h cells slots (mkF m pc' ls (.long z :: st))) : Go W EL Z a0 own p l e R s m args below meth c F h cells slots (mkF m pc ls (.long x :: st)) := by
  subst hp hz
  exact go_pure (fun T ha hx target hr => XT.lneg ha hx rfl hd rfl hr) k
theorem go_land {x y z : Int64} (hd : decode c.code pc = .ok (.land, 1)) (hp : pc + 1 = pc') (hz : x &&& y = z) (k : Go W EL Z a0 own p l e R s m args below meth c F h cells slots (mkF m pc' ls (.long z :: st))) : Go W EL Z a0 own p l e R s m args below meth c F h cells slots (mkF m pc ls (.long y :: .long x :: st)) := by
  subst hp hz
  exact go_pure (fun T ha hx target hr => XT.land ha hx rfl hd rfl hr) k
theorem go_ladd {x y z : Int64} (hd : decode c.code pc = .ok (.ladd, 1)) (hp : pc + 1 = pc') (hz : x + y = z) (k : Go W EL Z a0 own p l e R s m args below meth c F h cells slots (mkF m pc' ls (.long z :: st))) : Go W EL Z a0 own p l e R s m args below meth c F h cells slots (mkF m pc ls (.long y :: .long x :: st)) := by
  subst hp hz
  exact go_pure (fun T ha hx target hr => XT.ladd ha hx rfl hd rfl hr) k
theorem go_lsub {x y z : Int64} (hd : decode c.code pc = .ok (.lsub, 1)) (hp : pc + 1 = pc') (hz : x - y = z) (k : Go W EL Z a0 own p l e R s m args below meth c F h cells slots (mkF m pc' ls (.long z :: st))) : Go W EL Z a0 own p l e R s m args below meth c F h cells slots (mkF m pc ls (.long y :: .long x :: st)) := by
  subst hp hz
  exact go_pure (fun T ha hx target hr => XT.lsub ha hx rfl hd rfl hr) k
theorem go_ldiv {x y z : Int64} (hd : decode c.code pc = .ok (.ldiv, 1)) (hp : pc + 1 = pc') (hy : y ≠ 0) (hz : x / y = z) (k : Go W EL Z a0 own p l e R s m args below meth c F h cells slots (mkF m pc' ls (.long z :: st))) : Go W EL Z a0 own p l e R s m args below meth c F h cells slots (mkF m pc ls (.long y :: .long x :: st)) := by
  subst hp hz
  exact go_pure (fun T ha hx target hr => XT.ldiv ha hx rfl hd rfl hy hr) k
theorem go_lrem {x y z : Int64} (hd : decode c.code pc = .ok (.lrem, 1)) (hp : pc + 1 = pc') (hy : y ≠ 0) (hz : x - (x / y) * y = z) (k : Go W EL Z a0 own p l e R s m args below meth c F h cells slots (mkF m pc' ls (.long z :: st))) : Go W EL Z a0 own p l e R s m args below meth c F h cells slots (mkF m pc ls (.long y :: .long x :: st)) := by
  subst hp hz
  exact go_pure (fun T ha hx target hr => XT.lrem ha hx rfl hd rfl hy hr) k
theorem go_lcmp {x y : Int64} (hd : decode c.code pc = .ok (.lcmp, 1)) (hp : pc + 1 = pc') (k : Go W EL Z a0 own p l e R s m args below meth c F h cells slots (mkF m pc' ls (.int (XT.cmpL x y) :: st))) : Go W EL Z a0 own p l e R s m args below meth c F h cells slots (mkF m pc ls (.long y :: .long x :: st)) := by
  subst hp
  exact go_pure (fun T ha hx target hr => XT.lcmp ha hx rfl hd rfl hr) k
theorem go_lushr {x z : Int64} {y : Int32} (hd : decode c.code pc = .ok (.lushr, 1)) (hp : pc + 1 = pc') (hz : XT.ushrL x y = z) (k : Go W EL Z a0 own p l e R s m args below meth c F h cells slots (mkF m pc' ls (.long z :: st))) : Go W EL Z a0 own p l e R s m args below meth c F h cells slots (mkF m pc ls (.int y :: .long x :: st)) := by
  subst hp hz
  exact go_pure (fun T ha hx target hr => XT.lushr ha hx rfl hd rfl hr) k
theorem go_lconst {i : Fin 2} {v : Int64} (hd : decode c.code pc = .ok (.lconst i, 1)) (hp : pc + 1 = pc') (hv : Int64.ofNat i = v) (k : Go W EL Z a0 own p l e R s m args below meth c F h cells slots (mkF m pc' ls (.long v :: st))) : Go W EL Z a0 own p l e R s m args below meth c F h cells slots (mkF m pc ls st) := by
  subst hp hv
  exact go_pure (fun T ha hx target hr => XT.lconst ha hx rfl hd hr) k
theorem go_dup {v : Value} (hd : decode c.code pc = .ok (.dup, 1)) (hp : pc + 1 = pc') (hc : v.category = 1) (k : Go W EL Z a0 own p l e R s m args below meth c F h cells slots (mkF m pc' ls (v :: v :: st))) : Go W EL Z a0 own p l e R s m args below meth c F h cells slots (mkF m pc ls (v :: st)) := by
  subst hp
  exact go_pure (fun T ha hx target hr => XS.dup ha hx rfl hd rfl hc hr) k
theorem go_dup_x1 {v w : Value} (hd : decode c.code pc = .ok (.dup_x1, 1)) (hp : pc + 1 = pc') (hc : v.category = 1) (hc' : w.category = 1) (k : Go W EL Z a0 own p l e R s m args below meth c F h cells slots (mkF m pc' ls (v :: w :: v :: st))) : Go W EL Z a0 own p l e R s m args below meth c F h cells slots (mkF m pc ls (v :: w :: st)) := by
  subst hp
  exact go_pure (fun T ha hx target hr => XT.dupX1 ha hx rfl hd rfl hc hc' hr) k
theorem go_pop {v : Value} (hd : decode c.code pc = .ok (.pop, 1)) (hp : pc + 1 = pc') (hc : v.category = 1) (k : Go W EL Z a0 own p l e R s m args below meth c F h cells slots (mkF m pc' ls (st))) : Go W EL Z a0 own p l e R s m args below meth c F h cells slots (mkF m pc ls (v :: st)) := by
  subst hp
  exact go_pure (fun T ha hx target hr => XT.pop ha hx rfl hd rfl hc hr) k
theorem go_iinc {i : Nat} {q : Int} {x : Int32} (hd : decode c.code pc = .ok (.iinc i q, 3)) (hp : pc + 3 = pc') (hl : ls[i]? = some (.val (.int x))) {y : Int32} (hy : x + Int32.ofInt q = y) (hl' : storeLocals ls i (.int y) = some ls') (k : Go W EL Z a0 own p l e R s m args below meth c F h cells slots (mkF m pc' ls' st)) : Go W EL Z a0 own p l e R s m args below meth c F h cells slots (mkF m pc ls st) := by
  subst hp hy
  exact go_pure (fun T ha hx target hr => XS.iinc ha hx rfl hd hl hl' hr) k
theorem go_goto {o : Int} (hd : decode c.code pc = .ok (.goto o, 3)) (ho : 0 ≤ (pc : Int) + o) (hp : ((pc : Int) + o).toNat = pc') (k : Go W EL Z a0 own p l e R s m args below meth c F h cells slots (mkF m pc' ls st)) : Go W EL Z a0 own p l e R s m args below meth c F h cells slots (mkF m pc ls st) :=
  go_pure (fun T ha hx target hr => XS.goto ha hx rfl rfl hd ho hp hr) k
theorem go_ifT {o : Int} {cd : ClassFile.Cond} {x : Int32} (hd : decode c.code pc = .ok (.ifCond cd o, 3)) (ho : 0 ≤ (pc : Int) + o) (hp : ((pc : Int) + o).toNat = pc') (hc : ifCond.holds cd x = true) (k : Go W EL Z a0 own p l e R s m args below meth c F h cells slots (mkF m pc' ls st)) : Go W EL Z a0 own p l e R s m args below meth c F h cells slots (mkF m pc ls (.int x :: st)) :=
  go_pure (fun T ha hx target hr => XS.ifYes ha hx rfl rfl hd rfl hc ho hp hr) k
theorem go_ifF {o : Int} {cd : ClassFile.Cond} {x : Int32} (hd : decode c.code pc = .ok (.ifCond cd o, 3)) (hp : pc + 3 = pc') (hc : ifCond.holds cd x = false) (k : Go W EL Z a0 own p l e R s m args below meth c F h cells slots (mkF m pc' ls st)) : Go W EL Z a0 own p l e R s m args below meth c F h cells slots (mkF m pc ls (.int x :: st)) := by
  subst hp
  exact go_pure (fun T ha hx target hr => XS.ifNo ha hx rfl hd rfl hc hr) k
theorem go_icT {o : Int} {cd : ClassFile.Cond} {x y : Int32} (hd : decode c.code pc = .ok (.if_icmp cd o, 3)) (ho : 0 ≤ (pc : Int) + o) (hp : ((pc : Int) + o).toNat = pc') (hc : if_icmp.holds cd x y = true) (k : Go W EL Z a0 own p l e R s m args below meth c F h cells slots (mkF m pc' ls st)) : Go W EL Z a0 own p l e R s m args below meth c F h cells slots (mkF m pc ls (.int y :: .int x :: st)) :=
  go_pure (fun T ha hx target hr => XS.icmpYes ha hx rfl rfl hd rfl hc ho hp hr) k
theorem go_icF {o : Int} {cd : ClassFile.Cond} {x y : Int32} (hd : decode c.code pc = .ok (.if_icmp cd o, 3)) (hp : pc + 3 = pc') (hc : if_icmp.holds cd x y = false) (k : Go W EL Z a0 own p l e R s m args below meth c F h cells slots (mkF m pc' ls st)) : Go W EL Z a0 own p l e R s m args below meth c F h cells slots (mkF m pc ls (.int y :: .int x :: st)) := by
  subst hp
  exact go_pure (fun T ha hx target hr => XS.icmpNo ha hx rfl hd rfl hc hr) k
theorem go_acT {o : Int} {cd : ClassFile.ACond} {x y : Value} (hd : decode c.code pc = .ok (.if_acmp cd o, 3)) (ho : 0 ≤ (pc : Int) + o) (hp : ((pc : Int) + o).toNat = pc') (hx1 : x.isRef = true) (hy1 : y.isRef = true) (hc : XT.acmp cd x y = true) (k : Go W EL Z a0 own p l e R s m args below meth c F h cells slots (mkF m pc' ls st)) : Go W EL Z a0 own p l e R s m args below meth c F h cells slots (mkF m pc ls (y :: x :: st)) :=
  go_pure (fun T ha hx target hr => XT.acmpYes ha hx rfl rfl hd rfl hx1 hy1 hc ho hp hr) k
theorem go_acF {o : Int} {cd : ClassFile.ACond} {x y : Value} (hd : decode c.code pc = .ok (.if_acmp cd o, 3)) (hp : pc + 3 = pc') (hx1 : x.isRef = true) (hy1 : y.isRef = true) (hc : XT.acmp cd x y = false) (k : Go W EL Z a0 own p l e R s m args below meth c F h cells slots (mkF m pc' ls st)) : Go W EL Z a0 own p l e R s m args below meth c F h cells slots (mkF m pc ls (y :: x :: st)) := by
  subst hp
  exact go_pure (fun T ha hx target hr => XT.acmpNo ha hx rfl hd rfl hx1 hy1 hc hr) k
theorem go_nullT {o : Int} (hd : decode c.code pc = .ok (.ifnull o, 3)) (ho : 0 ≤ (pc : Int) + o) (hp : ((pc : Int) + o).toNat = pc') (k : Go W EL Z a0 own p l e R s m args below meth c F h cells slots (mkF m pc' ls st)) : Go W EL Z a0 own p l e R s m args below meth c F h cells slots (mkF m pc ls (.null :: st)) :=
  go_pure (fun T ha hx target hr => XS.ifnullYes ha hx rfl rfl hd rfl ho hp hr) k
theorem go_nullF {o : Int} {b : Addr} (hd : decode c.code pc = .ok (.ifnull o, 3)) (hp : pc + 3 = pc') (k : Go W EL Z a0 own p l e R s m args below meth c F h cells slots (mkF m pc' ls st)) : Go W EL Z a0 own p l e R s m args below meth c F h cells slots (mkF m pc ls (.ref b :: st)) := by
  subst hp
  exact go_pure (fun T ha hx target hr => XS.ifnullNo ha hx rfl hd rfl hr) k
theorem go_nnT {o : Int} {b : Addr} (hd : decode c.code pc = .ok (.ifnonnull o, 3)) (ho : 0 ≤ (pc : Int) + o) (hp : ((pc : Int) + o).toNat = pc') (k : Go W EL Z a0 own p l e R s m args below meth c F h cells slots (mkF m pc' ls st)) : Go W EL Z a0 own p l e R s m args below meth c F h cells slots (mkF m pc ls (.ref b :: st)) :=
  go_pure (fun T ha hx target hr => XT.ifnonnullYes ha hx rfl rfl hd rfl ho hp hr) k
theorem go_nnF {o : Int} (hd : decode c.code pc = .ok (.ifnonnull o, 3)) (hp : pc + 3 = pc') (k : Go W EL Z a0 own p l e R s m args below meth c F h cells slots (mkF m pc' ls st)) : Go W EL Z a0 own p l e R s m args below meth c F h cells slots (mkF m pc ls (.null :: st)) := by
  subst hp
  exact go_pure (fun T ha hx target hr => XT.ifnonnullNo ha hx rfl hd rfl hr) k
theorem go_getF {a : Addr} {v : Value} {R0 O n d : String} {index : Nat} (w : (Jvm.Cond.fieldLink own index R0 n d).before a0 Z = true) (via : Via Z R0 O n d) (F0 : Fld Z h a O n d v) (hd : decode c.code pc = .ok (.getfield index, 3)) (hp : pc + 3 = pc') (k : Go W EL Z a0 own p l e R s m args below meth c F h cells slots (mkF m pc' ls (v :: st))) : Go W EL Z a0 own p l e R s m args below meth c F h cells slots (mkF m pc ls (.ref a :: st)) := by
  subst hp
  intro T P
  obtain ⟨vm0, k0, locs, hWf, X, eT, hx, hZ, hown, hS, hk, hEL, hC, hN, hO⟩ := P
  obtain ⟨T', X', e', st'⟩ := getF X hx hZ hown (host := "") (Or.inl w) via eT F0 (g := mkF m pc ls (.ref a :: st)) rfl rfl hd
  obtain ⟨t, o, h1, h2⟩ := k T' ⟨vm0, k0, locs, hWf, X', e', hx, hZ, hown, hS, hk, hEL, hC, hN, hO⟩
  exact ⟨t, o, st' _ h1, h2⟩
theorem go_getS {v : Value} {O n d : String} {index : Nat} (w : (Jvm.Cond.fieldLink own index O n d).before a0 Z = true) (F0 : Sta Z h O n d v) (hd : decode c.code pc = .ok (.getstatic index, 3)) (hp : pc + 3 = pc') (k : Go W EL Z a0 own p l e R s m args below meth c F h cells slots (mkF m pc' ls (v :: st))) : Go W EL Z a0 own p l e R s m args below meth c F h cells slots (mkF m pc ls st) := by
  subst hp
  intro T P
  obtain ⟨vm0, k0, locs, hWf, X, eT, hx, hZ, hown, hS, hk, hEL, hC, hN, hO⟩ := P
  obtain ⟨T', X', e', st'⟩ := getS X hx hZ hown (host := "") w Via.refl eT F0 (g := mkF m pc ls st) rfl hd
  obtain ⟨t, o, h1, h2⟩ := k T' ⟨vm0, k0, locs, hWf, X', e', hx, hZ, hown, hS, hk, hEL, hC, hN, hO⟩
  exact ⟨t, o, st' _ h1, h2⟩
theorem safe_of {vm : Vm} {a : Addr} {C : String} (hal : Z.vm.Alike vm) (E : Exa Z h a C) (hs : (C ≠ "java/lang/String" ∧ C ≠ "[B") ∨ EL = []) : Safe Z EL vm h a := by
  rcases hs with hs | rfl
  · exact Safe.exa hal E hs.1 hs.2
  · exact safe_nil
theorem go_putF {a : Addr} {v v' old : Value} {R0 O n d C : String} {index kk : Nat} {ty : FieldType} (w : (Jvm.Cond.fieldLink own index R0 n d).before a0 Z = true) (via : Via Z R0 O n d) (F0 : Fld Z h a O n d old) (E : Exa Z h a C) (L : (Jvm.Cond.lays C O n d).before a0 Z = true ∨ ((Jvm.Cond.laysFinal C O n d).before a0 Z = true ∧ own = O ∧ meth.name = "<init>")) (wi : (Jvm.Cond.instantiable C kk).before a0 Z = true)
    (hty : parseFieldDescriptor d = some ty) (hn : narrow ty v = v') (hf : fits ty v' = true) (ha : Z.heap.size ≤ a) (hs : (C ≠ "java/lang/String" ∧ C ≠ "[B") ∨ EL = []) (hd : decode c.code pc = .ok (.putfield index, 3)) (hp : pc + 3 = pc')
    (k : ∀ h', Wr h h' a (Jvm.RoadKit.slotOf Z O n d) v' → Go W EL Z a0 own p l e R s m args below meth c F h' cells slots (mkF m pc' ls st)) : Go W EL Z a0 own p l e R s m args below meth c F h cells slots (mkF m pc ls (v :: .ref a :: st)) := by
  subst hp
  intro T P
  obtain ⟨vm0, k0, locs, hWf, X, eT, hx, hZ, hown, hS, hk, hEL, hC, hN, hO⟩ := P
  obtain ⟨T', h', X', e', W', st'⟩ := putFN X hx hZ hown w via eT F0 E L wi hty hn hf (g := mkF m pc ls (v :: .ref a :: st)) rfl rfl hd
  have S0 : Safe Z EL vm0 h a := safe_of hZ.alike E hs
  obtain ⟨t, o, h1, h2⟩ := k h' W' T' ⟨vm0, k0, _, hWf, X', e', hx, hZ, hown, hS, by rw [W'.size]; exact hk, hEL, hC.trans (CHr.wr W' S0 hC.1), Fr.snoc X' hN ha, hO.wr W' ha⟩
  exact ⟨t, o, st' _ h1, h2⟩
theorem go_newO {C : String} {index n : Nat} (w : (Jvm.Cond.classLink own index C).before a0 Z = true) (wi : (Jvm.Cond.instantiable C n).before a0 Z = true) (wz : (Jvm.Cond.initialized C).before a0 Z = true) (hd : decode c.code pc = .ok (.new index, 3)) (hp : pc + 3 = pc') (hcl : cells + 1 = cells') (hsl : slots + n = slots') (hc : cells' ≤ R.cells) (hl : slots' ≤ R.slots)
    (k : ∀ (h' : Heap) (a : Addr), h.size = a → Ext h h' → Exa Z h' a C → (∀ {O nm d : String} {ty : FieldType}, Laid Z a0 C O nm d → parseFieldDescriptor d = some ty → Fld Z h' a O nm d (defaultValue ty)) → Unt h' a → Go W EL Z a0 own p l e R s m args below meth c F h' cells' slots' (mkF m pc' ls (.ref a :: st))) : Go W EL Z a0 own p l e R s m args below meth c F h cells slots (mkF m pc ls st) := by
  subst hp hcl hsl
  intro T P
  obtain ⟨vm0, k0, locs, hWf, X, eT, hx, hZ, hown, hS, hk, hEL, hC, hN, hO⟩ := P
  obtain ⟨T', h', X', e', E', A', D', U', st'⟩ := newO X hx hZ hown w wi wz eT (g := mkF m pc ls st) rfl hd hc hl
  obtain ⟨t, o, h1, h2⟩ := k h' h.size rfl E' A' D' U' T' ⟨vm0, k0, _, hWf, X', e', hx, hZ, hown, hS, Nat.le_trans hk E'.1, hEL, hC.trans (CHr.ext E' hC.1), hN, hO.ext E'⟩
  exact ⟨t, o, st' _ h1, h2⟩
theorem go_newP {aty : ArrayType} {n : Int32} {cap : Nat} {vs : List Value} {ty : FieldType} {dv : Value} (w : (Jvm.Cond.arrayClass ty).before a0 Z = true) (hty : newarray.typeOf aty = ty) (hdv : defaultValue ty = dv) (hd : decode c.code pc = .ok (.newarray aty, 2)) (hp : pc + 2 = pc') (hn : ¬ n < 0) (hcap : n.toNatClampNeg = cap) (hb : cap * 8 ≤ 536870912) (hvs : List.replicate cap dv = vs) (hcl : cells + 1 = cells') (hsl : slots + cap = slots') (hc : cells' ≤ R.cells) (hl : slots' ≤ R.slots)
    (k : ∀ (h' : Heap) (a : Addr) (kA : ClassId), h.size = a → Ext h h' → Arv Z h' a kA ty n vs dv → Go W EL Z a0 own p l e R s m args below meth c F h' cells' slots' (mkF m pc' ls (.ref a :: st))) : Go W EL Z a0 own p l e R s m args below meth c F h cells slots (mkF m pc ls (.int n :: st)) := by
  subst hp hcl hsl hty hdv hvs
  intro T P
  obtain ⟨vm0, k0, locs, hWf, X, eT, hx, hZ, hown, hS, hk, hEL, hC, hN, hO⟩ := P
  obtain ⟨T', h', kA, X', e', E', A', st'⟩ := newP X hx hZ w eT (g := mkF m pc ls (.int n :: st)) rfl hd rfl hn (cap := cap) (Nat.le_of_eq hcap) hb hc hl
  have V : Arv Z h' h.size kA (newarray.typeOf aty) n (List.replicate cap (defaultValue (newarray.typeOf aty))) (defaultValue (newarray.typeOf aty)) := by
    have q := (Arv.new A' hn).pad (pad_rep [] (defaultValue (newarray.typeOf aty)) cap)
    simpa using q
  obtain ⟨t, o, h1, h2⟩ := k h' h.size kA rfl E' V T' ⟨vm0, k0, _, hWf, X', e', hx, hZ, hown, hS, Nat.le_trans hk E'.1, hEL, hC.trans (CHr.ext E' hC.1), hN, hO.ext E'⟩
  exact ⟨t, o, st' _ h1, h2⟩
theorem go_stC {a : Addr} {kA : ClassId} {z j x x' : Int32} {vs vs' : List Value} {dv : Value} {i : Nat} (A : Arv Z h a kA .char z vs dv) (ha : Z.heap.size ≤ a) (hj0 : ¬ j < 0) (hjz : j < z) (hji : j.toNatClampNeg = i) (hi : i < vs.length) (hx' : x.toUInt32.toUInt16.toUInt32.toInt32 = x') (hvs : vs.set i (.int x') = vs') (hd : decode c.code pc = .ok (.castore, 1)) (hp : pc + 1 = pc')
    (k : ∀ h', Wr h h' a i (.int x') → Arv Z h' a kA .char z vs' dv → Go W EL Z a0 own p l e R s m args below meth c F h' cells slots (mkF m pc' ls st)) : Go W EL Z a0 own p l e R s m args below meth c F h cells slots (mkF m pc ls (.int x :: .int j :: .ref a :: st)) := by
  subst hp hx' hvs hji
  intro T P
  obtain ⟨vm0, k0, locs, hWf, X, eT, hx, hZ, hown, hS, hk, hEL, hC, hN, hO⟩ := P
  obtain ⟨cl, Ar, q1, S1, N1, H1, G1⟩ := A
  obtain ⟨T', h', X', e', W', st'⟩ := stC X hx hZ eT Ar (j := j) (inb_of S1 ⟨hj0, hjz⟩) (g := mkF m pc ls (.int x :: .int j :: .ref a :: st)) rfl rfl hd
  have S0 : Safe Z EL vm0 h a := Safe.arr hZ.alike Ar (by decide)
  obtain ⟨t, o, h1, h2⟩ := k h' W' (Arv.set Ar q1 S1 N1 H1 G1 (fits_nar_char _) W' _ rfl hi) T' ⟨vm0, k0, _, hWf, X', e', hx, hZ, hown, hS, by rw [W'.size]; exact hk, hEL, hC.trans (CHr.wr W' S0 hC.1), Fr.snoc X' hN ha, hO.wr W' ha⟩
  exact ⟨t, o, st' _ h1, h2⟩
theorem go_stB {a : Addr} {kA : ClassId} {z j x x' : Int32} {vs vs' : List Value} {dv : Value} {i : Nat} (hE : EL = []) (A : Arv Z h a kA .byte z vs dv) (ha : Z.heap.size ≤ a) (hj0 : ¬ j < 0) (hjz : j < z) (hji : j.toNatClampNeg = i) (hi : i < vs.length) (hx' : x.toInt8.toInt32 = x') (hvs : vs.set i (.int x') = vs') (hd : decode c.code pc = .ok (.bastore, 1)) (hp : pc + 1 = pc')
    (k : ∀ h', Wr h h' a i (.int x') → Arv Z h' a kA .byte z vs' dv → Go W EL Z a0 own p l e R s m args below meth c F h' cells slots (mkF m pc' ls st)) : Go W EL Z a0 own p l e R s m args below meth c F h cells slots (mkF m pc ls (.int x :: .int j :: .ref a :: st)) := by
  subst hp hx' hvs hji hE
  intro T P
  obtain ⟨vm0, k0, locs, hWf, X, eT, hx, hZ, hown, hS, hk, hEL, hC, hN, hO⟩ := P
  obtain ⟨cl, Ar, q1, S1, N1, H1, G1⟩ := A
  obtain ⟨T', h', X', e', W', st'⟩ := stB X hx hZ eT Ar (j := j) (inb_of S1 ⟨hj0, hjz⟩) (g := mkF m pc ls (.int x :: .int j :: .ref a :: st)) rfl rfl hd
  obtain ⟨t, o, h1, h2⟩ := k h' W' (Arv.set Ar q1 S1 N1 H1 G1 (fits_nar_byte _) W' _ rfl hi) T' ⟨vm0, k0, _, hWf, X', e', hx, hZ, hown, hS, by rw [W'.size]; exact hk, hEL, hC.trans (CHr.wr W' safe_nil hC.1), Fr.snoc X' hN ha, hO.wr W' ha⟩
  exact ⟨t, o, st' _ h1, h2⟩
theorem go_caload {a : Addr} {kA : ClassId} {z j : Int32} {vs : List Value} {dv v : Value} {i : Nat} (A : Arv Z h a kA .char z vs dv) (hj0 : ¬ j < 0) (hjz : j < z) (hji : j.toNatClampNeg = i) (hv : vs.getD i dv = v) (hd : decode c.code pc = .ok (.caload, 1)) (hp : pc + 1 = pc')
    (k : Go W EL Z a0 own p l e R s m args below meth c F h cells slots (mkF m pc' ls (v :: st))) : Go W EL Z a0 own p l e R s m args below meth c F h cells slots (mkF m pc ls (.int j :: .ref a :: st)) := by
  subst hp hv hji
  intro T P
  obtain ⟨t, o, h1, h2⟩ := k T P
  obtain ⟨vm0, k0, locs, hWf, X, eT, hx, hZ, hown, hS, hk, hEL, hC, hN, hO⟩ := P
  obtain ⟨cl, Ar, q1, S1, N1, H1, G1⟩ := A
  have hin := inb_of S1 ⟨hj0, hjz⟩
  exact ⟨t, o, X.caload hx (by rw [eT]; exact Ar.1) (State.isArrayOf_alike hZ.alike Ar.2.1) Ar.2.2 hin (H1.at hin rfl) (g := mkF m pc ls (.int j :: .ref a :: st)) rfl rfl hd _ h1, h2⟩
theorem go_baload {a : Addr} {kA : ClassId} {z j : Int32} {vs : List Value} {dv v : Value} {i : Nat} (A : Arv Z h a kA .byte z vs dv) (hj0 : ¬ j < 0) (hjz : j < z) (hji : j.toNatClampNeg = i) (hv : vs.getD i dv = v) (hd : decode c.code pc = .ok (.baload, 1)) (hp : pc + 1 = pc')
    (k : Go W EL Z a0 own p l e R s m args below meth c F h cells slots (mkF m pc' ls (v :: st))) : Go W EL Z a0 own p l e R s m args below meth c F h cells slots (mkF m pc ls (.int j :: .ref a :: st)) := by
  subst hp hv hji
  intro T P
  obtain ⟨t, o, h1, h2⟩ := k T P
  obtain ⟨vm0, k0, locs, hWf, X, eT, hx, hZ, hown, hS, hk, hEL, hC, hN, hO⟩ := P
  obtain ⟨cl, Ar, q1, S1, N1, H1, G1⟩ := A
  have hin := inb_of S1 ⟨hj0, hjz⟩
  exact ⟨t, o, X.baloadBytes hx (by rw [eT]; exact Ar.1) (State.isArrayOf_alike hZ.alike Ar.2.1) Ar.2.2 hin (H1.at hin rfl) (g := mkF m pc ls (.int j :: .ref a :: st)) rfl rfl hd _ h1, h2⟩
theorem go_aaload {a : Addr} {kA : ClassId} {z j : Int32} {vs : List Value} {dv v : Value} {i : Nat} {ty : FieldType} (A : Arv Z h a kA ty z vs dv) (hty : ty.isReference = true) (hj0 : ¬ j < 0) (hjz : j < z) (hji : j.toNatClampNeg = i) (hv : vs.getD i dv = v) (hd : decode c.code pc = .ok (.aaload, 1)) (hp : pc + 1 = pc')
    (k : Go W EL Z a0 own p l e R s m args below meth c F h cells slots (mkF m pc' ls (v :: st))) : Go W EL Z a0 own p l e R s m args below meth c F h cells slots (mkF m pc ls (.int j :: .ref a :: st)) := by
  subst hp hv hji
  intro T P
  obtain ⟨t, o, h1, h2⟩ := k T P
  obtain ⟨vm0, k0, locs, hWf, X, eT, hx, hZ, hown, hS, hk, hEL, hC, hN, hO⟩ := P
  obtain ⟨cl, Ar, q1, S1, N1, H1, G1⟩ := A
  have hin := inb_of S1 ⟨hj0, hjz⟩
  exact ⟨t, o, X.aaload hx (by rw [eT]; exact Ar.1) (State.isArrayOf_alike hZ.alike Ar.2.1) hty Ar.2.2 hin (H1.at hin rfl) (g := mkF m pc ls (.int j :: .ref a :: st)) rfl rfl hd _ h1, h2⟩
theorem go_arraylength {a : Addr} {kA : ClassId} {z : Int32} {vs : List Value} {dv : Value} {ty : FieldType} (A : Arv Z h a kA ty z vs dv) (hd : decode c.code pc = .ok (.arraylength, 1)) (hp : pc + 1 = pc')
    (k : Go W EL Z a0 own p l e R s m args below meth c F h cells slots (mkF m pc' ls (.int z :: st))) : Go W EL Z a0 own p l e R s m args below meth c F h cells slots (mkF m pc ls (.ref a :: st)) := by
  subst hp
  intro T P
  obtain ⟨t, o, h1, h2⟩ := k T P
  obtain ⟨vm0, k0, locs, hWf, X, eT, hx, hZ, hown, hS, hk, hEL, hC, hN, hO⟩ := P
  obtain ⟨cl, Ar, q1, S1, N1, H1, G1⟩ := A
  refine ⟨t, o, X.arraylength hx (by rw [eT]; exact Ar.1) (State.isArrayOf_alike hZ.alike Ar.2.1) (g := mkF m pc ls (.ref a :: st)) rfl rfl hd _ ?_, h2⟩
  rw [len_of S1 N1]
  exact h1
theorem go_cast {a : Addr} {K : String} {index : Nat} (w : (Jvm.Cond.classLink own index K).before a0 Z = true) (I : Ins Z h a K true) (hd : decode c.code pc = .ok (.checkcast index, 3)) (hp : pc + 3 = pc') (k : Go W EL Z a0 own p l e R s m args below meth c F h cells slots (mkF m pc' ls (.ref a :: st))) : Go W EL Z a0 own p l e R s m args below meth c F h cells slots (mkF m pc ls (.ref a :: st)) := by
  subst hp
  intro T P
  obtain ⟨vm0, k0, locs, hWf, X, eT, hx, hZ, hown, hS, hk, hEL, hC, hN, hO⟩ := P
  obtain ⟨T', X', e', st'⟩ := castY X hx hZ hown w eT I (g := mkF m pc ls (.ref a :: st)) rfl rfl hd
  obtain ⟨t, o, h1, h2⟩ := k T' ⟨vm0, k0, locs, hWf, X', e', hx, hZ, hown, hS, hk, hEL, hC, hN, hO⟩
  exact ⟨t, o, st' _ h1, h2⟩
theorem go_instY {a : Addr} {K : String} {index : Nat} (w : (Jvm.Cond.classLink own index K).before a0 Z = true) (I : Ins Z h a K true) (hd : decode c.code pc = .ok (.instanceof index, 3)) (hp : pc + 3 = pc') (k : Go W EL Z a0 own p l e R s m args below meth c F h cells slots (mkF m pc' ls (.int 1 :: st))) : Go W EL Z a0 own p l e R s m args below meth c F h cells slots (mkF m pc ls (.ref a :: st)) := by
  subst hp
  intro T P
  obtain ⟨vm0, k0, locs, hWf, X, eT, hx, hZ, hown, hS, hk, hEL, hC, hN, hO⟩ := P
  obtain ⟨T', X', e', st'⟩ := instY X hx hZ hown w eT I (g := mkF m pc ls (.ref a :: st)) rfl rfl hd
  obtain ⟨t, o, h1, h2⟩ := k T' ⟨vm0, k0, locs, hWf, X', e', hx, hZ, hown, hS, hk, hEL, hC, hN, hO⟩
  exact ⟨t, o, st' _ h1, h2⟩
theorem go_instNo {a : Addr} {K C : String} {index : Nat} (w : (Jvm.Cond.classLink own index K).before a0 Z = true) (E : Exa Z h a C) (N0 : ∃ c t, Z.vm.findClass C = some c ∧ Z.vm.findClass K = some t ∧ Z.vm.assignable c t = false) (hd : decode c.code pc = .ok (.instanceof index, 3)) (hp : pc + 3 = pc') (k : Go W EL Z a0 own p l e R s m args below meth c F h cells slots (mkF m pc' ls (.int 0 :: st))) : Go W EL Z a0 own p l e R s m args below meth c F h cells slots (mkF m pc ls (.ref a :: st)) := by
  subst hp
  intro T P
  obtain ⟨vm0, k0, locs, hWf, X, eT, hx, hZ, hown, hS, hk, hEL, hC, hN, hO⟩ := P
  obtain ⟨T', X', e', st'⟩ := instNo X hx hZ hown w eT E N0 (g := mkF m pc ls (.ref a :: st)) rfl rfl hd
  obtain ⟨t, o, h1, h2⟩ := k T' ⟨vm0, k0, locs, hWf, X', e', hx, hZ, hown, hS, hk, hEL, hC, hN, hO⟩
  exact ⟨t, o, st' _ h1, h2⟩
theorem go_instNull {index : Nat} (hd : decode c.code pc = .ok (.instanceof index, 3)) (hp : pc + 3 = pc') (k : Go W EL Z a0 own p l e R s m args below meth c F h cells slots (mkF m pc' ls (.int 0 :: st))) : Go W EL Z a0 own p l e R s m args below meth c F h cells slots (mkF m pc ls (.null :: st)) := by
  subst hp
  intro T P
  obtain ⟨t, o, h1, h2⟩ := k T P
  obtain ⟨vm0, k0, locs, hWf, X, eT, hx, hZ, hown, hS, hk, hEL, hC, hN, hO⟩ := P
  exact ⟨t, o, X.instanceofNull hx (g := mkF m pc ls (.null :: st)) rfl rfl hd _ h1, h2⟩
theorem go_ldcI {v : Int32} {index : Nat} (w : (Jvm.Cond.constant own index v).before a0 Z = true) (hd : decode c.code pc = .ok (.ldc index, 2)) (hp : pc + 2 = pc') (k : Go W EL Z a0 own p l e R s m args below meth c F h cells slots (mkF m pc' ls (.int v :: st))) : Go W EL Z a0 own p l e R s m args below meth c F h cells slots (mkF m pc ls st) := by
  subst hp
  intro T P
  obtain ⟨t, o, h1, h2⟩ := k T P
  obtain ⟨vm0, k0, locs, hWf, X, eT, hx, hZ, hown, hS, hk, hEL, hC, hN, hO⟩ := P
  exact ⟨t, o, X.ldcInt hx hown (mvT hZ w) (g := mkF m pc ls st) rfl hd _ h1, h2⟩
theorem go_ldcJ {v : Int64} {index : Nat} (w : (Jvm.Cond.constantLong own index v).before a0 Z = true) (hd : decode c.code pc = .ok (.ldc2_w index, 3)) (hp : pc + 3 = pc') (k : Go W EL Z a0 own p l e R s m args below meth c F h cells slots (mkF m pc' ls (.long v :: st))) : Go W EL Z a0 own p l e R s m args below meth c F h cells slots (mkF m pc ls st) := by
  subst hp
  intro T P
  obtain ⟨t, o, h1, h2⟩ := k T P
  obtain ⟨vm0, k0, locs, hWf, X, eT, hx, hZ, hown, hS, hk, hEL, hC, hN, hO⟩ := P
  exact ⟨t, o, X.ldc2Long hx hown (mvT hZ w) (g := mkF m pc ls st) rfl hd _ h1, h2⟩
theorem go_ldcS {text : String} {index n : Nat} (hWt : W = true) (w : (Jvm.Cond.stringLink own index text).before a0 Z = true) (wS : ∀ a ∈ Bundle.stringAtoms, a.before a0 Z = true) (hn : 4 * text.toList.length ≤ n) (hbig : n ≤ 536870912) (hd : decode c.code pc = .ok (.ldc index, 2)) (hp : pc + 2 = pc') (hcl : cells + 2 = cells') (hsl : slots + (n + 4) = slots') (hc : cells' ≤ R.cells) (hl : slots' ≤ R.slots)
    (k : ∀ (h' : Heap) (a : Addr), Ext h h' → Go W EL Z a0 own p l e R s m args below meth c F h' cells' slots' (mkF m pc' ls (.ref a :: st))) : Go W EL Z a0 own p l e R s m args below meth c F h cells slots (mkF m pc ls st) := by
  subst hp hcl hsl hWt
  intro T P
  obtain ⟨vm0, k0, locs, hWf, X, eT, hx, hZ, hown, hS, hk, hEL, hC, hN, hO⟩ := P
  obtain ⟨a, T', h', k1, X', e', E', hS', hk', hZ', hown', hC', -, st'⟩ := ldcOH X hx hZ hown w wS eT hS hk hEL hC.1 (g := mkF m pc ls st) rfl hd hn hbig hc hl
  obtain ⟨t, o, h1, h2⟩ := k h' a E' T' ⟨T'.vm, k1, _, (fun q => nomatch q), X', e', hx, hZ', hown', hS', hk', hEL, hC.trans hC', hN, hO.ext E'⟩
  exact ⟨t, o, st' _ h1, h2⟩
theorem go_ldcH {text : String} {index n : Nat} {vs : List Value} {z : Int32} (hWt : W = true) (hmem : (own, index) ∈ EL) (w : (Jvm.Cond.stringLink own index text).before a0 Z = true) (wS : ∀ a ∈ Bundle.stringAtoms, a.before a0 Z = true) (ht : (∀ c ∈ text.toList, c.toNat < 256) ∧ text.toList.map (fun c => Value.int (Jvm.Lit.byteI c.toNat.toUInt16)) = vs) (hz : ¬ z < 0) (hlz : z.toNatClampNeg = vs.length) (hn : 4 * text.toList.length ≤ n) (hbig : n ≤ 536870912) (hd : decode c.code pc = .ok (.ldc index, 2)) (hp : pc + 2 = pc') (hcl : cells + 2 = cells') (hsl : slots + (n + 4) = slots') (hc : cells' ≤ R.cells) (hl : slots' ≤ R.slots)
    (k : ∀ (h' : Heap) (a b : Addr) (kb : ClassId), Ext h h' → Exa Z h' a "java/lang/String" → Fld Z h' a "java/lang/String" "coder" "B" (.int 0) → Fld Z h' a "java/lang/String" "value" "[B" (.ref b) → Arv Z h' b kb .byte z vs (.int 0) → Go W EL Z a0 own p l e R s m args below meth c F h' cells' slots' (mkF m pc' ls (.ref a :: st))) : Go W EL Z a0 own p l e R s m args below meth c F h cells slots (mkF m pc ls st) := by
  subst hp hcl hsl hWt
  intro T P
  obtain ⟨vm0, k0, locs, hWf, X, eT, hx, hZ, hown, hS, hk, hEL, hC, hN, hO⟩ := P
  obtain ⟨a, T', h', k1, b, kb, X', e', E', hS', hk', hZ', hown', q1, q2, q3, q4, -, -, hC', -, -, st'⟩ := ldcCH X hx hZ hown w wS eT hS hk hEL hmem hC.1 ht hz hlz (g := mkF m pc ls st) rfl hd hn hbig hc hl
  obtain ⟨t, o, h1, h2⟩ := k h' a b kb E' q1 q2 q3 q4 T' ⟨T'.vm, k1, _, (fun q => nomatch q), X', e', hx, hZ', hown', hS', hk', hEL, hC.trans hC', hN, hO.ext E'⟩
  exact ⟨t, o, st' _ h1, h2⟩
theorem go_initO {a : Addr} {idx Wd : Nat} (w1 : (Jvm.Cond.methodLink own idx Lib.objectInit).before a0 Z = true) (w2 : (Jvm.Cond.instanceMethod Lib.objectInit).before a0 Z = true) (w3 : (Jvm.Cond.code Lib.objectInit ⟨#[0xb1]⟩ 1 none).before a0 Z = true) (hsize : ls.size = c.maxLocals) (hW : 2 * 0 + (st.map fun v => v.category).sum ≤ Wd) (hf : 1 ≤ R.frames) (hl : Wd + 12 ≤ R.locals) (hd : decode c.code pc = .ok (.invokespecial idx, 3)) (hp : pc + 3 = pc') (k : Go W EL Z a0 own p l e R s m args below meth c F h cells slots (mkF m pc' ls st)) : Go W EL Z a0 own p l e R s m args below meth c F h cells slots (mkF m pc ls (.ref a :: st)) := by
  subst hp
  intro T P
  obtain ⟨vm0, k0, locs, hWf, X, eT, hx, hZ, hown, hS, hk, hEL, hC, hN, hO⟩ := P
  obtain ⟨T', X', e', st'⟩ := initO X hx hZ hown w1 w2 w3 eT (g := mkF m pc ls (.ref a :: st)) rfl hsize rfl hd hf (W := Wd) hW hl
  obtain ⟨t, o, h1, h2⟩ := k T' ⟨vm0, k0, locs, hWf, X', e', hx, hZ, hown, hS, hk, hEL, hC, hN, hO⟩
  exact ⟨t, o, st' _ h1, h2⟩
-- calls: what a payment gives back as a point of the caller's walk
theorem pt_back {vm0 vm₁ : Vm} {k0 : Nat} {locs L : List Loc} {T : State} {B : Pt} {ws : List Addr} {dc ds : Nat} (hWf : W = false → vm0 = s.vm) (eT : T.heap = h) (hx : p.tables.exec = Jvm.exec) (hZ : Z.Warmed39 vm0) (hown : vm0.findClass own = some m.cls) (hS : s.Since vm0 k0) (hk : k0 ≤ h.size) (hEL : EW Z a0 EL) (hC : CHr Z EL s.vm s.heap vm0 h) (hN : Fr Z.heap.size locs) (hO : Old Z Z.heap.size h)
    (X : Stand p l e R (s.setVm vm0) m args below meth c B.U B.locs B.cells B.slots) (hL : Fr Z.heap.size L) (K : Keep h B.U.heap ws) (b1 : B.locs = locs ++ L) (b2 : B.cells = cells + dc) (b3 : B.slots = slots + ds) (hws : ∀ x ∈ ws, Z.heap.size ≤ x) (hsf : ∀ vm, Z.vm.Alike vm → ∀ x ∈ ws, Safe Z EL vm h x) (hcl : cells + dc = cells') (hsl : slots + ds = slots') :
    PT W EL Z a0 own p l e R s m args below meth c B.U B.U.heap cells' slots' := by
  subst hcl hsl
  rw [b1, b2, b3] at X
  exact ⟨vm0, k0, _, hWf, X, rfl, hx, hZ, hown, hS, Nat.le_trans hk K.1, hEL, hC.trans (CHr.keep K (hsf _ hZ.alike) hC.1), hN.app hL, hO.keep K hws⟩
theorem pt_backS {vm0 : Vm} {k0 : Nat} {locs L : List Loc} {B : Pt} {ws : List Addr} {dc ds : Nat} (hWt : W = true) (hx : p.tables.exec = Jvm.exec) (hZ : Z.Warmed39 vm0) (hown : vm0.findClass own = some m.cls) (hS : s.Since vm0 k0) (hk : k0 ≤ h.size) (hEL : EW Z a0 EL) (hC : CHr Z EL s.vm s.heap vm0 h) (hN : Fr Z.heap.size locs) (hO : Old Z Z.heap.size h)
    (X : Stand p l e R (s.setVm B.U.vm) m args below meth c B.U B.locs B.cells B.slots) (S2 : (s.setVm vm0).Since B.U.vm B.U.heap.size) (hL : Fr Z.heap.size L) (K : Keep h B.U.heap ws) (b1 : B.locs = locs ++ L) (b2 : B.cells = cells + dc) (b3 : B.slots = slots + ds) (b4 : CHr Z EL vm0 h B.U.vm B.U.heap) (hws : ∀ x ∈ ws, Z.heap.size ≤ x) (hcl : cells + dc = cells') (hsl : slots + ds = slots') :
    PT W EL Z a0 own p l e R s m args below meth c B.U B.U.heap cells' slots' := by
  subst hcl hsl hWt
  rw [b1, b2, b3] at X
  have hZ' : Z.Warmed39 B.U.vm := State.Warmed39.trans (t := s.setVm vm0) (s := Z) hZ S2.1
  have hown' : B.U.vm.findClass own = some m.cls := by
    rw [S2.1.alike.findClass]
    exact hown
  exact ⟨B.U.vm, B.U.heap.size, _, (fun q => nomatch q), X, rfl, hx, hZ', hown', hS.trans S2 (Nat.le_trans hk K.1), Nat.le_refl _, hEL, hC.trans b4, hN.app hL, hO.keep K hws⟩
theorem callS0 {index Wd dc ds : Nat} {y : MethodName} {bytes : ByteArray} {maxL : Nat} {ret : Option FieldType} {argsL rest : List Value} {ws : List Addr} {Q : Option Value → Heap → Prop} {ps : List FieldType} {r : Option FieldType}
    (hK : Pay l R p e below Z y Wd argsL.toArray h dc ds ws Q) (w1 : (Jvm.Cond.methodLink own index y).before a0 Z = true) (w2 : (Jvm.Cond.static y).before a0 Z = true) (w3 : (Jvm.Cond.initialized y.cls).before a0 Z = true) (w4 : (Jvm.Cond.code y bytes maxL ret).before a0 Z = true) (hy : y.cls ≠ "java/lang/invoke/MethodHandle" ∧ y.cls ≠ "java/lang/invoke/VarHandle")
    (hpd : parseMethodDescriptor y.desc = some ⟨ps, r⟩) (hln : argsL.length = ps.length) (hst : st = argsL.reverse ++ rest) (hsize : ls.size = c.maxLocals) (hW : 2 * 0 + (rest.map fun v => v.category).sum ≤ Wd) (hcl : cells + dc = cells') (hsl : slots + ds = slots') (hc : cells' ≤ R.cells) (hs : slots' ≤ R.slots) (hws : ∀ x ∈ ws, Z.heap.size ≤ x) (hsf : ∀ vm, Z.vm.Alike vm → ∀ x ∈ ws, Safe Z EL vm h x)
    (hd : decode c.code pc = .ok (.invokestatic index, 3)) (k : ∀ (v : Option Value) (h' : Heap), Q v h' → Keep h h' ws → Go W EL Z a0 own p l e R s m args below meth c F h' cells' slots' (mkF m (pc + 3) ls (v.toList ++ rest))) : Go W EL Z a0 own p l e R s m args below meth c F h cells slots (mkF m pc ls st) := by
  intro T P
  obtain ⟨vm0, k0, locs, hWf, X, eT, hx, hZ, hown, hS, hk, hEL, hC, hN, hO⟩ := P
  obtain ⟨v, vm₁, B, -, X', ⟨L, ⟨q1, q2, q3⟩, b1, b2, b3⟩, st'⟩ := Jvm.LawKit.callS X hx hown (mvT hZ w1) (mvT hZ w2) (mvT hZ w3) (mvT hZ w4) hy (hK _ _ hZ) (g := mkF m pc ls st) rfl hsize (lenOf hpd hln) hst hW hd (fun _ _ => ⟨rfl, eT, by rw [hcl]; exact hc, by rw [hsl]; exact hs⟩)
  obtain ⟨t, o, h1, h2⟩ := k v _ q1 q3 B.U (pt_back (vm₁ := vm₁) hWf eT hx hZ hown hS hk hEL hC hN hO X' q2 q3 b1 b2 b3 hws hsf hcl hsl)
  exact ⟨t, o, st' _ h1, h2⟩
theorem callSW0 {index Wd dc ds : Nat} {y : MethodName} {bytes : ByteArray} {maxL : Nat} {ret : Option FieldType} {argsL rest : List Value} {ws : List Addr} {Q : Option Value → Heap → Prop} {ps : List FieldType} {r : Option FieldType} (hWt : W = true)
    (hK : PayW EL l R p e below Z y Wd argsL.toArray h dc ds ws Q) (w1 : (Jvm.Cond.methodLink own index y).before a0 Z = true) (w2 : (Jvm.Cond.static y).before a0 Z = true) (w3 : (Jvm.Cond.initialized y.cls).before a0 Z = true) (w4 : (Jvm.Cond.code y bytes maxL ret).before a0 Z = true) (hy : y.cls ≠ "java/lang/invoke/MethodHandle" ∧ y.cls ≠ "java/lang/invoke/VarHandle")
    (hpd : parseMethodDescriptor y.desc = some ⟨ps, r⟩) (hln : argsL.length = ps.length) (hst : st = argsL.reverse ++ rest) (hsize : ls.size = c.maxLocals) (hW : 2 * 0 + (rest.map fun v => v.category).sum ≤ Wd) (hcl : cells + dc = cells') (hsl : slots + ds = slots') (hc : cells' ≤ R.cells) (hs : slots' ≤ R.slots) (hws : ∀ x ∈ ws, Z.heap.size ≤ x)
    (hd : decode c.code pc = .ok (.invokestatic index, 3)) (k : ∀ (v : Option Value) (h' : Heap), Q v h' → Keep h h' ws → Go W EL Z a0 own p l e R s m args below meth c F h' cells' slots' (mkF m (pc + 3) ls (v.toList ++ rest))) : Go W EL Z a0 own p l e R s m args below meth c F h cells slots (mkF m pc ls st) := by
  intro T P
  obtain ⟨vm0, k0, locs, hWf, X, eT, hx, hZ, hown, hS, hk, hEL, hC, hN, hO⟩ := P
  obtain ⟨v, vm₁, B, -, X', S2, -, ⟨L, ⟨q1, q2, q3⟩, b1, b2, b3, b4⟩, st'⟩ := callSS X hx hown (mvT hZ w1) (mvT hZ w2) (mvT hZ w3) (mvT hZ w4) hy (hK s vm0 _ hZ hC.1) (g := mkF m pc ls st) rfl hsize (lenOf hpd hln) hst hW hd (fun _ _ => ⟨rfl, eT, by rw [hcl]; exact hc, by rw [hsl]; exact hs⟩)
  obtain ⟨t, o, h1, h2⟩ := k v _ q1 q3 B.U (pt_backS hWt hx hZ hown hS hk hEL hC hN hO X' S2 q2 q3 b1 b2 b3 b4 hws hcl hsl)
  exact ⟨t, o, st'.trans h1, h2⟩
theorem callI0 {index Wd dc ds : Nat} {y : MethodName} {bytes : ByteArray} {maxL : Nat} {a : Addr} {argsL rest : List Value} {ws : List Addr} {Q : Option Value → Heap → Prop} {ps : List FieldType} {r : Option FieldType}
    (hK : Pay l R p e below Z y Wd (.ref a :: argsL).toArray h dc ds ws Q) (hy1 : y.name = "<init>") (w1 : (Jvm.Cond.methodLink own index y).before a0 Z = true) (w2 : (Jvm.Cond.instanceMethod y).before a0 Z = true) (w4 : (Jvm.Cond.code y bytes maxL none).before a0 Z = true) (hy : y.cls ≠ "java/lang/invoke/MethodHandle" ∧ y.cls ≠ "java/lang/invoke/VarHandle")
    (hpd : parseMethodDescriptor y.desc = some ⟨ps, r⟩) (hln : argsL.length = ps.length) (hst : st = argsL.reverse ++ .ref a :: rest) (hsize : ls.size = c.maxLocals) (hW : 2 * 0 + (rest.map fun v => v.category).sum ≤ Wd) (hcl : cells + dc = cells') (hsl : slots + ds = slots') (hc : cells' ≤ R.cells) (hs : slots' ≤ R.slots) (hws : ∀ x ∈ ws, Z.heap.size ≤ x) (hsf : ∀ vm, Z.vm.Alike vm → ∀ x ∈ ws, Safe Z EL vm h x)
    (hd : decode c.code pc = .ok (.invokespecial index, 3)) (k : ∀ (v : Option Value) (h' : Heap), Q v h' → Keep h h' ws → Go W EL Z a0 own p l e R s m args below meth c F h' cells' slots' (mkF m (pc + 3) ls (v.toList ++ rest))) : Go W EL Z a0 own p l e R s m args below meth c F h cells slots (mkF m pc ls st) := by
  intro T P
  obtain ⟨vm0, k0, locs, hWf, X, eT, hx, hZ, hown, hS, hk, hEL, hC, hN, hO⟩ := P
  obtain ⟨v, vm₁, B, -, X', ⟨L, ⟨q1, q2, q3⟩, b1, b2, b3⟩, st'⟩ := X.specialBack hx hy1 hown (mvT hZ w1) (mvT hZ w2) (mvT hZ w4) hy (hK _ _ hZ) (g := mkF m pc ls st) rfl hsize (Steps.refl _) (lenOf hpd hln) hst hW hd (fun _ _ => ⟨rfl, eT, by rw [hcl]; exact hc, by rw [hsl]; exact hs⟩)
  obtain ⟨t, o, h1, h2⟩ := k v _ q1 q3 B.U (pt_back (vm₁ := vm₁) hWf eT hx hZ hown hS hk hEL hC hN hO X' q2 q3 b1 b2 b3 hws hsf hcl hsl)
  exact ⟨t, o, st'.trans h1, h2⟩
theorem callIW0 {index Wd dc ds : Nat} {y : MethodName} {bytes : ByteArray} {maxL : Nat} {a : Addr} {argsL rest : List Value} {ws : List Addr} {Q : Option Value → Heap → Prop} {ps : List FieldType} {r : Option FieldType} (hWt : W = true)
    (hK : PayW EL l R p e below Z y Wd (.ref a :: argsL).toArray h dc ds ws Q) (hy1 : y.name = "<init>") (w1 : (Jvm.Cond.methodLink own index y).before a0 Z = true) (w2 : (Jvm.Cond.instanceMethod y).before a0 Z = true) (w4 : (Jvm.Cond.code y bytes maxL none).before a0 Z = true) (hy : y.cls ≠ "java/lang/invoke/MethodHandle" ∧ y.cls ≠ "java/lang/invoke/VarHandle")
    (hpd : parseMethodDescriptor y.desc = some ⟨ps, r⟩) (hln : argsL.length = ps.length) (hst : st = argsL.reverse ++ .ref a :: rest) (hsize : ls.size = c.maxLocals) (hW : 2 * 0 + (rest.map fun v => v.category).sum ≤ Wd) (hcl : cells + dc = cells') (hsl : slots + ds = slots') (hc : cells' ≤ R.cells) (hs : slots' ≤ R.slots) (hws : ∀ x ∈ ws, Z.heap.size ≤ x)
    (hd : decode c.code pc = .ok (.invokespecial index, 3)) (k : ∀ (v : Option Value) (h' : Heap), Q v h' → Keep h h' ws → Go W EL Z a0 own p l e R s m args below meth c F h' cells' slots' (mkF m (pc + 3) ls (v.toList ++ rest))) : Go W EL Z a0 own p l e R s m args below meth c F h cells slots (mkF m pc ls st) := by
  intro T P
  obtain ⟨vm0, k0, locs, hWf, X, eT, hx, hZ, hown, hS, hk, hEL, hC, hN, hO⟩ := P
  obtain ⟨v, vm₁, B, -, X', S2, -, ⟨L, ⟨q1, q2, q3⟩, b1, b2, b3, b4⟩, st'⟩ := X.specialBackS hx hy1 hown (mvT hZ w1) (mvT hZ w2) (mvT hZ w4) hy (hK s vm0 _ hZ hC.1) (g := mkF m pc ls st) rfl hsize (Steps.refl _) (lenOf hpd hln) hst hW hd (fun _ _ => ⟨rfl, eT, by rw [hcl]; exact hc, by rw [hsl]; exact hs⟩)
  obtain ⟨t, o, h1, h2⟩ := k v _ q1 q3 B.U (pt_backS hWt hx hZ hown hS hk hEL hC hN hO X' S2 q2 q3 b1 b2 b3 b4 hws hcl hsl)
  exact ⟨t, o, st'.trans h1, h2⟩
theorem callV0 {index Wd dc ds : Nat} {y z : MethodName} {C C' : String} {a : Addr} {argsL rest : List Value} {ws : List Addr} {Q : Option Value → Heap → Prop} {ps : List FieldType} {r : Option FieldType}
    (hK : Pay l R p e below Z z Wd (.ref a :: argsL).toArray h dc ds ws Q) (E : Exa Z h a C) (w1 : (Jvm.Cond.methodLink own index y).before a0 Z = true) (w2 : (Jvm.Cond.declares y).before a0 Z = true) (w3 : (Jvm.Cond.selects C' y y).before a0 Z = true) (w5 : (Jvm.Cond.selects C y z).before a0 Z = true) (w4 : (Jvm.Cond.instanceMethod z).before a0 Z = true) (hy : y.cls ≠ "java/lang/invoke/MethodHandle" ∧ y.cls ≠ "java/lang/invoke/VarHandle")
    (hpd : parseMethodDescriptor y.desc = some ⟨ps, r⟩) (hln : argsL.length = ps.length) (hst : st = argsL.reverse ++ .ref a :: rest) (hsize : ls.size = c.maxLocals) (hW : 2 * 0 + (rest.map fun v => v.category).sum ≤ Wd) (hcl : cells + dc = cells') (hsl : slots + ds = slots') (hc : cells' ≤ R.cells) (hs : slots' ≤ R.slots) (hws : ∀ x ∈ ws, Z.heap.size ≤ x) (hsf : ∀ vm, Z.vm.Alike vm → ∀ x ∈ ws, Safe Z EL vm h x)
    (hd : decode c.code pc = .ok (.invokevirtual index, 3)) (k : ∀ (v : Option Value) (h' : Heap), Q v h' → Keep h h' ws → Go W EL Z a0 own p l e R s m args below meth c F h' cells' slots' (mkF m (pc + 3) ls (v.toList ++ rest))) : Go W EL Z a0 own p l e R s m args below meth c F h cells slots (mkF m pc ls st) := by
  intro T P
  obtain ⟨vm0, k0, locs, hWf, X, eT, hx, hZ, hown, hS, hk, hEL, hC, hN, hO⟩ := P
  obtain ⟨cB, kB, i1, i2, i3⟩ := isOf (T := T) (s := s.setVm vm0) hZ eT E
  obtain ⟨v, vm₁, B, -, X', ⟨L, ⟨q1, q2, q3⟩, b1, b2, b3⟩, st'⟩ := X.virtualBack hx (y := y) (z := z) hown (mvT hZ w1) (mvT hZ w2) (notFace_of_selects (args := #[]) (mvT hZ w3)) (mvT hZ w5) (mvT hZ w4) hy (hK _ _ hZ) i1 i3 (g := mkF m pc ls st) rfl hsize (Steps.refl _) (lenOf hpd hln) hst hW hd (fun _ _ => ⟨rfl, eT, by rw [hcl]; exact hc, by rw [hsl]; exact hs⟩)
  obtain ⟨t, o, h1, h2⟩ := k v _ q1 q3 B.U (pt_back (vm₁ := vm₁) hWf eT hx hZ hown hS hk hEL hC hN hO X' q2 q3 b1 b2 b3 hws hsf hcl hsl)
  exact ⟨t, o, st'.trans h1, h2⟩
theorem callVW0 {index Wd dc ds : Nat} {y z : MethodName} {C C' : String} {a : Addr} {argsL rest : List Value} {ws : List Addr} {Q : Option Value → Heap → Prop} {ps : List FieldType} {r : Option FieldType} (hWt : W = true)
    (hK : PayW EL l R p e below Z z Wd (.ref a :: argsL).toArray h dc ds ws Q) (E : Exa Z h a C) (w1 : (Jvm.Cond.methodLink own index y).before a0 Z = true) (w2 : (Jvm.Cond.declares y).before a0 Z = true) (w3 : (Jvm.Cond.selects C' y y).before a0 Z = true) (w5 : (Jvm.Cond.selects C y z).before a0 Z = true) (w4 : (Jvm.Cond.instanceMethod z).before a0 Z = true) (hy : y.cls ≠ "java/lang/invoke/MethodHandle" ∧ y.cls ≠ "java/lang/invoke/VarHandle")
    (hpd : parseMethodDescriptor y.desc = some ⟨ps, r⟩) (hln : argsL.length = ps.length) (hst : st = argsL.reverse ++ .ref a :: rest) (hsize : ls.size = c.maxLocals) (hW : 2 * 0 + (rest.map fun v => v.category).sum ≤ Wd) (hcl : cells + dc = cells') (hsl : slots + ds = slots') (hc : cells' ≤ R.cells) (hs : slots' ≤ R.slots) (hws : ∀ x ∈ ws, Z.heap.size ≤ x)
    (hd : decode c.code pc = .ok (.invokevirtual index, 3)) (k : ∀ (v : Option Value) (h' : Heap), Q v h' → Keep h h' ws → Go W EL Z a0 own p l e R s m args below meth c F h' cells' slots' (mkF m (pc + 3) ls (v.toList ++ rest))) : Go W EL Z a0 own p l e R s m args below meth c F h cells slots (mkF m pc ls st) := by
  intro T P
  obtain ⟨vm0, k0, locs, hWf, X, eT, hx, hZ, hown, hS, hk, hEL, hC, hN, hO⟩ := P
  obtain ⟨cB, kB, i1, i2, i3⟩ := isOf (T := T) (s := s.setVm vm0) hZ eT E
  obtain ⟨v, vm₁, B, -, X', S2, -, ⟨L, ⟨q1, q2, q3⟩, b1, b2, b3, b4⟩, st'⟩ := X.virtualBackS hx (y := y) (z := z) hown (mvT hZ w1) (mvT hZ w2) (notFace_of_selects (args := #[]) (mvT hZ w3)) (mvT hZ w5) (mvT hZ w4) hy (hK s vm0 _ hZ hC.1) i1 i3 (g := mkF m pc ls st) rfl hsize (Steps.refl _) (lenOf hpd hln) hst hW hd (fun _ _ => ⟨rfl, eT, by rw [hcl]; exact hc, by rw [hsl]; exact hs⟩)
  obtain ⟨t, o, h1, h2⟩ := k v _ q1 q3 B.U (pt_backS hWt hx hZ hown hS hk hEL hC hN hO X' S2 q2 q3 b1 b2 b3 b4 hws hcl hsl)
  exact ⟨t, o, st'.trans h1, h2⟩
theorem k_v {ws : List Addr} {QV : Value → Heap → Prop} {rest : List Value} (hp : pc + 3 = pc') (k : ∀ (x : Value) (h' : Heap), QV x h' → Keep h h' ws → Go W EL Z a0 own p l e R s m args below meth c F h' cells' slots' (mkF m pc' ls (x :: rest))) : ∀ (v : Option Value) (h' : Heap), rvl QV v h' → Keep h h' ws → Go W EL Z a0 own p l e R s m args below meth c F h' cells' slots' (mkF m (pc + 3) ls (v.toList ++ rest)) := by
  subst hp
  rintro _ h' ⟨x, rfl, q⟩ K
  exact k x h' q K
theorem k_n {ws : List Addr} {QN : Heap → Prop} {rest : List Value} (hp : pc + 3 = pc') (k : ∀ (h' : Heap), QN h' → Keep h h' ws → Go W EL Z a0 own p l e R s m args below meth c F h' cells' slots' (mkF m pc' ls rest)) : ∀ (v : Option Value) (h' : Heap), rno QN v h' → Keep h h' ws → Go W EL Z a0 own p l e R s m args below meth c F h' cells' slots' (mkF m (pc + 3) ls (v.toList ++ rest)) := by
  subst hp
  rintro _ h' ⟨rfl, q⟩ K
  exact k h' q K
-- the end
theorem fin_of {vm0 : Vm} {k0 : Nat} {locs : List Loc} {T : State} {h0 : Heap} {ws : List Addr} {Q : Option Value → Heap → Prop} {dc ds : Nat} {v : Option Value} (hlk : meth.locks = false) (hWf : W = false → vm0 = s.vm) (X : Stand p l e R (s.setVm vm0) m args below meth c T locs cells slots) (eT : T.heap = h) (hZ : Z.Warmed39 vm0) (hS : s.Since vm0 k0) (hk : k0 ≤ h.size) (hEL : EW Z a0 EL) (hC : CHr Z EL s.vm s.heap vm0 h) (hN : Fr Z.heap.size locs) (hv : meth.sig.returnType = none → v = none) (hq : Q v h) (K : Keep h0 h ws) (hc : cells ≤ dc) (hs : slots ≤ ds) :
    ∃ fs, (∀ (f : JFrame) (acts : List Action), f.method = m → f.locked = none → f.entered = [] → (doReturn e (T.setTop f) acts v).1 = T.setFrames fs) ∧ (T.setFrames fs).status = .running ∧ Ended (T.setFrames fs) below (.returned v) ∧ Fend W EL Z s h0 ws Q dc ds (.returned v) (T.setFrames fs) := by
  cases W
  · obtain rfl := hWf rfl
    obtain ⟨fs, hr, hrun, hended, hW, hsame⟩ := X.leave (v := v) hv hlk
    exact ⟨fs, hr, hrun, hended, v, locs, rfl, ⟨by rw [show (T.setFrames fs).heap = h from eT]; exact hq, hN, by rw [show (T.setFrames fs).heap = h from eT]; exact K⟩, (fun q => nomatch q), fun _ => ⟨⟨v, rfl⟩, hW, hsame.mono hc hs⟩⟩
  · obtain ⟨fs, hr, hrun, hended, q1, q2, q3, q4⟩ := X.leaveW hS (by rw [eT]; exact hk) (v := v) hv hlk
    exact ⟨fs, hr, hrun, hended, v, locs, rfl, ⟨by rw [show (T.setFrames fs).heap = h from eT]; exact hq, hN, by rw [show (T.setFrames fs).heap = h from eT]; exact K⟩, fun _ => ⟨by rw [show (T.setFrames fs).heap = h from eT]; exact hC.trans (show CHr Z EL vm0 h T.vm h from CHv.at X hZ hEL hC.1), q1, q2, q3, q4.mono hc hs⟩, (fun q => nomatch q)⟩
theorem go_areturn {v : Value} {t : FieldType} {h0 : Heap} {ws : List Addr} {Q : Option Value → Heap → Prop} {dc ds : Nat} (hret : meth.sig.returnType = some t) (hlk : meth.locks = false) (ht : t.isReference = true) (hv : v.isRef = true) (hd : decode c.code pc = .ok (.areturn, 1)) (hc : cells ≤ dc) (hs : slots ≤ ds) (hq : Q (some v) h) (K : Keep h0 h ws) :
    Go W EL Z a0 own p l e R s m args below meth c (Fend W EL Z s h0 ws Q dc ds) h cells slots (mkF m pc ls [v]) := by
  intro T P
  obtain ⟨vm0, k0, locs, hWf, X, eT, hx, hZ, hown, hS, hk, hEL, hC, hN, hO⟩ := P
  obtain ⟨fs, hr, q1, q2, q3⟩ := fin_of hlk hWf X eT hZ hS hk hEL hC hN (v := some v) (fun q => by rw [hret] at q; cases q) hq K hc hs
  exact ⟨_, _, X.areturnOut hx hv hret ht hd hr, q1, q2, q3⟩
theorem go_return {h0 : Heap} {ws : List Addr} {Q : Option Value → Heap → Prop} {dc ds : Nat} (hret : meth.sig.returnType = none) (hlk : meth.locks = false) (hd : decode c.code pc = .ok (.return_, 1)) (hc : cells ≤ dc) (hs : slots ≤ ds) (hq : Q none h) (K : Keep h0 h ws) :
    Go W EL Z a0 own p l e R s m args below meth c (Fend W EL Z s h0 ws Q dc ds) h cells slots (mkF m pc ls []) := by
  intro T P
  obtain ⟨vm0, k0, locs, hWf, X, eT, hx, hZ, hown, hS, hk, hEL, hC, hN, hO⟩ := P
  obtain ⟨fs, hr, q1, q2, q3⟩ := fin_of hlk hWf X eT hZ hS hk hEL hC hN (v := none) (fun _ => rfl) hq K hc hs
  exact ⟨_, _, X.returnOut hx hret hd hr, q1, q2, q3⟩
theorem go_ireturn {x : Int32} {t : FieldType} {h0 : Heap} {ws : List Addr} {Q : Option Value → Heap → Prop} {dc ds : Nat} (hret : meth.sig.returnType = some t) (hlk : meth.locks = false) (hn : narrow t (.int x) = .int x) (hti : t = .int ∨ t = .boolean ∨ t = .byte ∨ t = .char ∨ t = .short) (hd : decode c.code pc = .ok (.ireturn, 1)) (hc : cells ≤ dc) (hs : slots ≤ ds) (hq : Q (some (.int x)) h) (K : Keep h0 h ws) :
    Go W EL Z a0 own p l e R s m args below meth c (Fend W EL Z s h0 ws Q dc ds) h cells slots (mkF m pc ls [.int x]) := by
  intro T P
  obtain ⟨vm0, k0, locs, hWf, X, eT, hx, hZ, hown, hS, hk, hEL, hC, hN, hO⟩ := P
  obtain ⟨fs, hr, q1, q2, q3⟩ := fin_of hlk hWf X eT hZ hS hk hEL hC hN (v := some (.int x)) (fun q => by rw [hret] at q; cases q) hq K hc hs
  exact ⟨_, _, X.ireturnOut hx hret hn hti hd hr, q1, q2, q3⟩
theorem go_lreturn {x : Int64} {h0 : Heap} {ws : List Addr} {Q : Option Value → Heap → Prop} {dc ds : Nat} (hret : meth.sig.returnType = some .long) (hlk : meth.locks = false) (hd : decode c.code pc = .ok (.lreturn, 1)) (hc : cells ≤ dc) (hs : slots ≤ ds) (hq : Q (some (.long x)) h) (K : Keep h0 h ws) :
    Go W EL Z a0 own p l e R s m args below meth c (Fend W EL Z s h0 ws Q dc ds) h cells slots (mkF m pc ls [.long x]) := by
  intro T P
  obtain ⟨vm0, k0, locs, hWf, X, eT, hx, hZ, hown, hS, hk, hEL, hC, hN, hO⟩ := P
  obtain ⟨fs, hr, q1, q2, q3⟩ := fin_of hlk hWf X eT hZ hS hk hEL hC hN (v := some (.long x)) (fun q => by rw [hret] at q; cases q) hq K hc hs
  exact ⟨_, _, X.lreturnOut hx hret hd hr, q1, q2, q3⟩
theorem nv_obj {v : Value} {C : String} (q : v.isRef = true) : narrow (.object C) v = v := by cases v <;> first | rfl | simp [Value.isRef] at q
theorem fv_obj {v : Value} {C : String} (q : v.isRef = true) : fits (.object C) v = true := by cases v <;> first | rfl | simp [Value.isRef] at q
theorem i2b_i2b (x : Int32) : (x.toInt8.toInt32).toInt8.toInt32 = x.toInt8.toInt32 := by simp
theorem go_cut {α : Type} {P : α → Prop} {gf : α → JFrame} {g0 : JFrame} (k : ∀ q, P q → Go W EL Z a0 own p l e R s m args below meth c F h cells slots (gf q)) (b : (∀ q, P q → Go W EL Z a0 own p l e R s m args below meth c F h cells slots (gf q)) → Go W EL Z a0 own p l e R s m args below meth c F h cells slots (g0)) : Go W EL Z a0 own p l e R s m args below meth c F h cells slots (g0) := b k
theorem go_getSN {v : Value} {O n d host : String} {index : Nat} (w : (Jvm.Cond.fieldLinkNest own index O n d host).before a0 Z = true) (F0 : Sta Z h O n d v) (hd : decode c.code pc = .ok (.getstatic index, 3)) (hp : pc + 3 = pc') (k : Go W EL Z a0 own p l e R s m args below meth c F h cells slots (mkF m pc' ls (v :: st))) : Go W EL Z a0 own p l e R s m args below meth c F h cells slots (mkF m pc ls st) := by
  subst hp
  intro T P
  obtain ⟨vm0, k0, locs, hWf, X, eT, hx, hZ, hown, hS, hk, hEL, hC, hN, hO⟩ := P
  obtain ⟨T', X', e', st'⟩ := getS2 X hx hZ hown (Or.inr w) Via.refl eT F0 (g := mkF m pc ls st) rfl hd
  obtain ⟨t, o, h1, h2⟩ := k T' ⟨vm0, k0, locs, hWf, X', e', hx, hZ, hown, hS, hk, hEL, hC, hN, hO⟩
  exact ⟨t, o, st' _ h1, h2⟩
theorem go_newR {C : String} {index : Nat} {n : Int32} {cap : Nat} {vs : List Value} (w1 : (Jvm.Cond.classLink own index C).before a0 Z = true) (w2 : (Jvm.Cond.arrayOver (.object C)).before a0 Z = true) (hd : decode c.code pc = .ok (.anewarray index, 3)) (hp : pc + 3 = pc') (hn : ¬ n < 0) (hcap : n.toNatClampNeg = cap) (hb : cap * 8 ≤ 536870912) (hvs : List.replicate cap Value.null = vs) (hcl : cells + 1 = cells') (hsl : slots + cap = slots') (hc : cells' ≤ R.cells) (hl : slots' ≤ R.slots)
    (k : ∀ (h' : Heap) (a : Addr) (kA : ClassId), h.size = a → Ext h h' → Arv Z h' a kA (.object C) n vs .null → Ovr Z kA C → Go W EL Z a0 own p l e R s m args below meth c F h' cells' slots' (mkF m pc' ls (.ref a :: st))) : Go W EL Z a0 own p l e R s m args below meth c F h cells slots (mkF m pc ls (.int n :: st)) := by
  subst hp hcl hsl hvs
  intro T P
  obtain ⟨vm0, k0, locs, hWf, X, eT, hx, hZ, hown, hS, hk, hEL, hC, hN, hO⟩ := P
  obtain ⟨T', h', kA, X', e', E', A', O', st'⟩ := newR X hx hZ hown w1 w2 eT (g := mkF m pc ls (.int n :: st)) rfl hd rfl hn (cap := cap) (Nat.le_of_eq hcap) hb hc hl
  have V : Arv Z h' h.size kA (.object C) n (List.replicate cap Value.null) .null := by
    have q : Arv Z h' h.size kA (.object C) n ([] ++ List.replicate cap Value.null) .null := (Arv.new A' hn).pad (pad_rep [] (defaultValue (.object C)) cap)
    simpa using q
  obtain ⟨t, o, h1, h2⟩ := k h' h.size kA rfl E' V O' T' ⟨vm0, k0, _, hWf, X', e', hx, hZ, hown, hS, Nat.le_trans hk E'.1, hEL, hC.trans (CHr.ext E' hC.1), hN, hO.ext E'⟩
  exact ⟨t, o, st' _ h1, h2⟩
theorem go_stR {a y : Addr} {kA : ClassId} {z j : Int32} {vs vs' : List Value} {i : Nat} {K C : String} (A : Arv Z h a kA (.object K) z vs .null) (O0 : Ovr Z kA C) (I : Ins Z h y C true) (ha : Z.heap.size ≤ a) (hj0 : ¬ j < 0) (hjz : j < z) (hji : j.toNatClampNeg = i) (hi : i < vs.length) (hvs : vs.set i (.ref y) = vs') (hd : decode c.code pc = .ok (.aastore, 1)) (hp : pc + 1 = pc')
    (k : ∀ h', Wr h h' a i (.ref y) → Arv Z h' a kA (.object K) z vs' .null → Go W EL Z a0 own p l e R s m args below meth c F h' cells slots (mkF m pc' ls st)) : Go W EL Z a0 own p l e R s m args below meth c F h cells slots (mkF m pc ls (.ref y :: .int j :: .ref a :: st)) := by
  subst hp hvs hji
  intro T P
  obtain ⟨vm0, k0, locs, hWf, X, eT, hx, hZ, hown, hS, hk, hEL, hC, hN, hO⟩ := P
  obtain ⟨cl, Ar, q1, S1, N1, H1, G1⟩ := A
  obtain ⟨T', h', X', e', W', st'⟩ := stR X hx hZ eT Ar (j := j) (inb_of S1 ⟨hj0, hjz⟩) rfl (Sto.ofV Ar q1 O0 I) (g := mkF m pc ls (.ref y :: .int j :: .ref a :: st)) rfl rfl hd
  have S0 : Safe Z EL vm0 h a := Safe.arr hZ.alike Ar (by simp)
  obtain ⟨t, o, h1, h2⟩ := k h' W' (Arv.set Ar q1 S1 N1 H1 G1 rfl W' _ rfl hi) T' ⟨vm0, k0, _, hWf, X', e', hx, hZ, hown, hS, by rw [W'.size]; exact hk, hEL, hC.trans (CHr.wr W' S0 hC.1), Fr.snoc X' hN ha, hO.wr W' ha⟩
  exact ⟨t, o, st' _ h1, h2⟩
end Own
abbrev EL1 : List (String × Nat) := [("com/example/commitwise/commitwise/TransactionDefinition", 7), ("com/example/commitwise/commitwise/TransactionDefinition", 15), ("java/lang/String", 7)]
def GH (Z : State) (a0 : Array Value) : Prop := (∀ d ∈ tables_1, d.before a0 Z = true) ∧ (∀ d ∈ jdkStatics_1, d.before a0 Z = true) ∧ EW Z a0 EL1 ∧ (narrow_1.value a0 Z none Z [] = some true) ∧ Fit Z
theorem wk {Z : State} {a0 : Array Value} (G : GH Z a0) (k : Nat) {d : Jvm.Cond} (q : tables_1[k]? = some d) : d.before a0 Z = true := G.1 _ (List.mem_of_getElem? q)
theorem jk {Z : State} {a0 : Array Value} (G : GH Z a0) (k : Nat) {d : Jvm.Cond} (q : jdkStatics_1[k]? = some d) : d.before a0 Z = true := G.2.1 _ (List.mem_of_getElem? q)
theorem ew1 {Z : State} {a0 : Array Value} (G : GH Z a0) : EW Z a0 EL1 := G.2.2.1
theorem wS {Z : State} {a0 : Array Value} (G : GH Z a0) : ∀ a ∈ Bundle.stringAtoms, a.before a0 Z = true := fun a ha => G.1 a ((by decide +kernel : ∀ d ∈ Bundle.stringAtoms, d ∈ tables_1) a ha)
theorem cs_of {Z : State} {a0 : Array Value} (G : GH Z a0) : ∃ z, Sta Z Z.heap "java/lang/String" "COMPACT_STRINGS" "Z" (.int z) ∧ ¬ z = 0 := by
  obtain ⟨z, e1⟩ := is_v (Cond.before_iff.mp (jk G 1 rfl))
  exact ⟨z, Sta.start e1 (Or.inl (jk G 0 rfl)), gotF (Cond.eq_ints e1 (Term.int_eval (0))) (not_v (Cond.before_iff.mp (jk G 2 rfl)))⟩
theorem sf_of {Z : State} {a0 : Array Value} (G : GH Z a0) : ∃ v, Sta Z Z.heap "jdk/internal/util/Preconditions" "SIOOBE_FORMATTER" "Ljava/util/function/BiFunction;" v ∧ v.isRef = true := by
  obtain ⟨v, e1, r1⟩ := isR_v (Cond.before_iff.mp (jk G 8 rfl))
  exact ⟨v, Sta.start e1 (Or.inl (jk G 7 rfl)), r1⟩
theorem held_of {s : State} {q : String × Nat} (h : Jvm.Pilot.@@N@@.Jvm.D.constHeld s q.1 q.2) : Jvm.Lit.constHeld s q.1 q.2 := h
theorem nar_c8 {c : Int32} (q : ¬ c < 0 ∧ ¬ (255 : Int32) < c) : narrow .char (.int c) = .int c := by
  show Value.int (nar .char c) = _
  rw [show nar .char c = c.toUInt32.toUInt16.toUInt32.toInt32 from rfl]
  have r := c_i2c c
  obtain ⟨q1, q2⟩ := q
  rw [Int32.lt_iff_toInt_lt] at q1 q2
  have e1 : (255 : Int32).toInt = 255 := by decide
  have e0 : (0 : Int32).toInt = 0 := by decide
  congr 1
  apply Int32.toInt_inj.mp
  omega
section OwnStr
variable {W : Bool} {EL : List (String × Nat)} {Z : State} {a0 : Array Value} {own : String} {p : Program} {l : Launch} {e : Env} {R : Room} {below : List Frame} {h h' : Heap} {x b : Addr} {cs ds : List Int32}
abbrev C8 (c : Int32) : Prop := ¬ c < 0 ∧ ¬ (255 : Int32) < c
theorem c8n : ∀ c ∈ ([] : List Int32), C8 c := fun _ q => nomatch q
theorem c8c {y : Int32} {L : List Int32} (q : C8 y) (r : ∀ c ∈ L, C8 c) : ∀ c ∈ y :: L, C8 c := fun c hc => by
  rcases List.mem_cons.mp hc with rfl | hc
  · exact q
  · exact r c hc
theorem c8_m (y : Int32) : C8 (y &&& 255) := by
  have q := c_and y 255 (by decide)
  have e1 : (255 : Int32).toInt = 255 := by decide
  have e0 : (0 : Int32).toInt = 0 := by decide
  constructor <;> (intro r; rw [Int32.lt_iff_toInt_lt] at r; omega)
theorem c8_up {c : Int32} (q : C8 c) : ¬ c < 0 ∧ ¬ (65535 : Int32) < c := ⟨q.1, fun r => q.2 (by
  rw [Int32.lt_iff_toInt_lt] at r ⊢
  have e1 : (65535 : Int32).toInt = 65535 := by decide
  have e2 : (255 : Int32).toInt = 255 := by decide
  omega)⟩
theorem i2c_c16 {c : Int32} (q : ¬ c < 0 ∧ ¬ (65535 : Int32) < c) : c.toUInt32.toUInt16.toUInt32.toInt32 = c := by
  have r := c_i2c c
  obtain ⟨q1, q2⟩ := q
  rw [Int32.lt_iff_toInt_lt] at q1 q2
  have e1 : (65535 : Int32).toInt = 65535 := by decide
  have e0 : (0 : Int32).toInt = 0 := by decide
  apply Int32.toInt_inj.mp
  omega
theorem i2c_c8 {c : Int32} (q : C8 c) : c.toUInt32.toUInt16.toUInt32.toInt32 = c := i2c_c16 (c8_up q)
def Str (Z : State) (h : Heap) (a : Addr) (cs : List Int32) : Prop := ∃ (t : Addr) (kb : ClassId), Exa Z h a "java/lang/String" ∧ Fld Z h a "java/lang/String" "value" "[B" (.ref t) ∧ Fld Z h a "java/lang/String" "coder" "B" (.int 0) ∧ Arv Z h t kb .byte (Int32.ofNat cs.length) ((cs.map fun c => c.toInt8.toInt32).map Value.int) (.int 0) ∧ (∀ c ∈ cs, C8 c) ∧ cs.length ≤ 4000
theorem Str.exa (S : Str Z h x cs) : Exa Z h x "java/lang/String" := by obtain ⟨t, k, q, -⟩ := S; exact q
theorem Str.keep (S : Str Z h x cs) (K : Keep h h' []) : Str Z h' x cs := by
  obtain ⟨t, k, q1, q2, q3, q4, q5, q6⟩ := S
  exact ⟨t, k, q1.keep K, q2.keep K nin0, q3.keep K nin0, q4.keep K nin0, q5, q6⟩
theorem Str.ext (S : Str Z h x cs) (E : Ext h h') : Str Z h' x cs := S.keep ((Keep.refl h []).ext E)
theorem Str.keepX {C : String} {n : Nat} (S : Str Z h x cs) (K : Keep h h' [b]) (E : Exa Z h b C) (hC : C ≠ "java/lang/String") (wi : (Jvm.Cond.instantiable C n).before a0 Z = true) : Str Z h' x cs := by
  obtain ⟨t, k, q1, q2, q3, q4, q5, q6⟩ := S
  have n1 : x ≠ b := ne_exa q1 E (Ne.symm hC)
  obtain ⟨cl, Ar, -⟩ := id q4
  have n2 : t ≠ b := Ne.symm (ne_arr E wi Ar)
  exact ⟨t, k, q1.keep K, q2.keep K (ninS n1 nin0), q3.keep K (ninS n1 nin0), q4.keep K (ninS n2 nin0), q5, q6⟩
theorem safe_null {vm : Vm} (hal : Z.vm.Alike vm) (E : Exa Z h x "java/lang/String") (V : Fld Z h x "java/lang/String" "value" "[B" .null) : Safe Z EL vm h x := fun B => by
  obtain ⟨cell, k, e1, e2, e3, -, -⟩ := E
  obtain ⟨cell', cf, k', i, f, v1, v2, v3, v4, v5, v6, v7⟩ := V
  cases e1.symm.trans v1
  obtain ⟨p, -, u, a, -, q, -, F, rfl | rfl⟩ := B
  · cases (show h[q.sa]? = some q.sC from F.ha).symm.trans e1
    obtain ⟨cS, ⟨⟨s1, s2, s3, ⟨cv, kv, iv, s4, s4'⟩, s5, s6, s7, s8, s9⟩, -, -⟩, -⟩ := F
    obtain ⟨kz, z4⟩ := ff_back (U := Wst Z vm h) hal s4
    cases z4.symm.trans v2
    rw [s8] at v7
    cases v7
  · cases (show h[q.sd]? = some q.SA from F.hd).symm.trans e1
    obtain ⟨cS, -, -, fB, -⟩ := F
    have f' : vm.findClass "[B" = some q.SA.cls := fB
    rw [hal.findClass] at f'
    obtain ⟨k1, q1, q2⟩ := Vm.findClass_spec f'
    obtain ⟨k2, q3, q4⟩ := Vm.findClass_spec e2
    cases q1.symm.trans q3
    exact absurd (q2.symm.trans q4) (by decide)
theorem go_empty {W : Bool} {s : State} {m : MethodId} {args : Array Value} {meth : Method} {c : Code} {F : Outcome → State → Prop} {cells slots : Nat} {ls : Array Slot} {a : Addr} (G : GH Z a0) (hWt : W = true) (hmem : ("java/lang/String", 7) ∈ EL) (hnm : meth.name = "<init>") (hls : ls[0]? = some (.val (.ref a)))
    (w1 : (Jvm.Cond.stringLink "java/lang/String" 7 "").before a0 Z = true) (w2 : (Jvm.Cond.fieldLink "java/lang/String" 9 "java/lang/String" "value" "[B").before a0 Z = true) (w3 : (Jvm.Cond.fieldLink "java/lang/String" 15 "java/lang/String" "coder" "B").before a0 Z = true) (w4 : (Jvm.Cond.laysFinal "java/lang/String" "java/lang/String" "value" "[B").before a0 Z = true) (w5 : (Jvm.Cond.laysFinal "java/lang/String" "java/lang/String" "coder" "B").before a0 Z = true) (wi : (Jvm.Cond.instantiable "java/lang/String" 4).before a0 Z = true)
    (E : Exa Z h a "java/lang/String") (V : Fld Z h a "java/lang/String" "value" "[B" .null) (Cd : Fld Z h a "java/lang/String" "coder" "B" (.int 0)) (za : Z.heap.size ≤ a)
    (d8 : decode c.code 8 = .ok (.aload_n 0, 1)) (d9 : decode c.code 9 = .ok (.ldc 7, 2)) (d11 : decode c.code 11 = .ok (.getfield 9, 3)) (d14 : decode c.code 14 = .ok (.putfield 9, 3)) (d17 : decode c.code 17 = .ok (.aload_n 0, 1)) (d18 : decode c.code 18 = .ok (.ldc 7, 2)) (d20 : decode c.code 20 = .ok (.getfield 15, 3)) (d23 : decode c.code 23 = .ok (.putfield 15, 3))
    (hc : cells + 4 ≤ R.cells) (hl : slots + 8 ≤ R.slots)
    (k : ∀ h', Str Z h' a [] → Keep h h' [a] → Go W EL Z a0 "java/lang/String" p l e R s m args below meth c F h' (cells + 4) (slots + 8) (mkF m 26 ls [])) : Go W EL Z a0 "java/lang/String" p l e R s m args below meth c F h cells slots (mkF m 8 ls []) := by
  subst hWt
  intro T P
  obtain ⟨vm0, k0, locs, hWf, X, eT, hx, hZ, hown, hS, hk, hEL, hC, hN, hO⟩ := P
  have hal0 : h.size > a := E.lt
  have S0 : Safe Z EL vm0 h a := safe_null hZ.alike E V
  obtain ⟨a1, T1, h1, k1, b1, kb1, X1, e1, E1, hS1, hk1, hZ1, hown1, q1, q2, q3, q4, -, -, hC1, -, ne1, st1⟩ := ldcCH X hx hZ hown w1 (wS G) eT hS hk hEL hmem hC.1 (vs := []) (z := 0) (by decide) (by decide) (by decide) (g := mkF m 9 ls [.ref a]) rfl d9 (n := 0) (by decide) (by decide) (by omega) (by omega)
  have hZ1 : Z.Warmed39 T1.vm := hZ1
  have S1 : Safe Z EL T1.vm h1 a := hC1.safe hal0 S0
  obtain ⟨T2, X2, e2, st2⟩ := getF X1 hx hZ1 hown1 (host := "") (Or.inl w2) Via.refl e1 q3 (g := mkF m 11 ls [.ref a1, .ref a]) rfl rfl d11
  obtain ⟨T3, h3, X3, e3, W3, st3⟩ := putFN X2 hx hZ1 hown1 w2 Via.refl e2 (V.ext E1) (E.ext E1) (Or.inr ⟨w4, rfl, hnm⟩) wi (ty := .array .byte) (v' := .ref b1) (by decide) rfl rfl (g := mkF m 14 ls [.ref b1, .ref a]) rfl rfl d14
  have hC3 : CHr Z EL vm0 h T1.vm h3 := hC1.trans (CHr.wr W3 S1 hC1.1)
  have S3 : Safe Z EL T1.vm h3 a := Safe.wr W3 S1 hC1.1 S1
  have A3 := q4.other W3 (Ne.symm (ne1 a S1).2)
  have V3 := (V.ext E1).same W3
  have C3 := (Cd.ext E1).other W3 (Or.inr (slot_ne (t := .byte) (t' := .array .byte) (Or.inr w5) (Or.inr w4) (by decide) (by decide) (by decide)))
  have X3' : Exa Z h3 a "java/lang/String" := (E.ext E1).wr W3
  have hk3 : k1 ≤ h3.size := by rw [W3.size]; exact hk1
  obtain ⟨a4, T4, h4, k4, b4, kb4, X4, e4, E4, hS4, hk4, hZ4, hown4, r1, r2, r3, r4, -, -, hC4, -, ne4, st4⟩ := ldcCH X3 hx hZ1 hown1 w1 (wS G) e3 hS1 hk3 hEL hmem hC3.1 (vs := []) (z := 0) (by decide) (by decide) (by decide) (g := mkF m 18 ls [.ref a]) rfl d18 (n := 0) (by decide) (by decide) (by omega) (by omega)
  have hZ4 : Z.Warmed39 T4.vm := hZ4
  have S4 : Safe Z EL T4.vm h4 a := hC4.safe X3'.lt S3
  obtain ⟨T5, X5, e5, st5⟩ := getF X4 hx hZ4 hown4 (host := "") (Or.inl w3) Via.refl e4 r2 (g := mkF m 20 ls [.ref a4, .ref a]) rfl rfl d20
  obtain ⟨T6, h6, X6, e6, W6, st6⟩ := putFN X5 hx hZ4 hown4 w3 Via.refl e5 (C3.ext E4) (X3'.ext E4) (Or.inr ⟨w5, rfl, hnm⟩) wi (ty := .byte) (v' := .int 0) (by decide) rfl rfl (g := mkF m 23 ls [.int 0, .ref a]) rfl rfl d23
  have ext4 : Exa Z h4 a "java/lang/String" := X3'.ext E4
  have nb : b1 ≠ a := Ne.symm (ne1 a S1).2
  have KK : Keep h h6 [a] := ((((Keep.refl h [a]).ext E1).wr W3 (Or.inl (by simp))).ext E4).wr W6 (Or.inl (by simp))
  have SS : Str Z h6 a [] := ⟨b1, kb1, ext4.wr W6, (V3.ext E4).other W6 (Or.inr (slot_ne (t := .array .byte) (t' := .byte) (Or.inr w4) (Or.inr w5) (by decide) (by decide) (by decide))), (C3.ext E4).same W6, (A3.ext E4).other W6 nb, c8n, by decide⟩
  have O6 : Old Z Z.heap.size h6 := (((hO.ext E1).wr W3 za).ext E4).wr W6 za
  obtain ⟨t, o, z1, z2⟩ := k h6 SS KK T6 ⟨T4.vm, k4, _, (fun q => nomatch q), X6, e6, hx, hZ4, hown4, hS4, by rw [W6.size]; exact hk4, hEL, hC.trans (hC3.trans (hC4.trans (CHr.wr W6 S4 hC4.1))), Fr.snoc X6 (Fr.snoc X3 hN za) za, O6⟩
  refine ⟨t, o, ?_, z2⟩
  refine XS.aloadN X.here hx rfl d8 hls rfl ?_
  refine st1 _ ?_
  refine st2 _ ?_
  refine st3 _ ?_
  refine XS.aloadN X3.here hx rfl d17 hls rfl ?_
  refine st4 _ ?_
  refine st5 _ ?_
  exact st6 _ z1
theorem pay_new (G : GH Z a0) (O : Old Z Z.heap.size h) {kC : ClassId} {d v0 c0 : Value} {N : Int32} {n Wd : Nat} (hx0 : Z.heap.size ≤ x) (E : Exa Z h x "java/lang/String") (V : Fld Z h x "java/lang/String" "value" "[B" v0) (C : Fld Z h x "java/lang/String" "coder" "B" c0) (K : Arv Z h b kC .char N (cs.map Value.int) d) (hn : cs.length = n) (hN : N = Int32.ofNat n) (l0 : 0 < n) (l2 : n ≤ 4000) (hp : ∀ c ∈ cs, C8 c) (hfr : 4 ≤ R.frames) (hlo : Wd + 65 ≤ R.locals) :
    Pay l R p e below Z (⟨"java/lang/String", "<init>", "([C)V"⟩ : MethodName) Wd #[.ref x, .ref b] h 1 n [x] (rno fun h' => Str Z h' x cs) := by
  intro s args hZ
  obtain ⟨z, hS, hz⟩ := cs_of G
  refine (StrChars.Road.backV (W := Wd) hZ (fun d hd => G.1 d ((by decide +kernel : ∀ d ∈ StrChars.Road.words, d ∈ tables_1) d hd)) (kI := 4) (wk G 20 rfl) hx0 O.2.1 E V C K (hS.ext O.2) hz hn hN l0 l2 hp rfl hfr hlo).mono (fun _ _ q => q) ?_
  rintro A a v B - ⟨L, ⟨rfl, q1, q2, q3, q4, t, kb, q5, q6, q7, q8, q9⟩, b1, b2, b3⟩
  subst hn hN
  exact ⟨L, ⟨⟨rfl, t, kb, q3, q8, q4, q9, hp, l2⟩, q1, q2⟩, b1, b2, b3⟩
end OwnStr
theorem tm_x {y : Int32} (q : y < (-1 : Int32)) : ¬ (y ^^^ (-1 : Int32)) < (-1 : Int32) := by
  intro r
  have s := (c_xorS y (-1)).1
  have e3 : (-1 : Int32).toInt = -1 := by decide
  rw [Int32.lt_iff_toInt_lt] at r q
  omega
def sa (Z : State) (C n d : String) : Addr := (((Term.static C n d).eval #[] Z none [] Z).bind refO).getD 0
theorem sta_ref {Z : State} {a0 : Array Value} {C n d K : String} (q : (Jvm.Cond.exactly (.static C n d) K).value a0 Z none Z [] = some true) (hi : (Jvm.Cond.initialized C).before a0 Z = true ∧ (Jvm.Cond.laysStatic C n d).before a0 Z = true) : Sta Z Z.heap C n d (.ref (sa Z C n d)) ∧ Exa Z Z.heap (sa Z C n d) K := by
  obtain ⟨y, e1⟩ := exa_v q
  have r : sa Z C n d = y := by
    unfold sa
    rw [show (Term.static C n d).eval #[] Z none [] Z = some (.ref y) from e1]
    rfl
  rw [r]
  exact ⟨Sta.start e1 (Or.inr hi), Exa.start e1 q⟩
def s_REQUIRED (Z : State) : Addr := sa Z "com/example/commitwise/commitwise/Propagation" "REQUIRED" "Lcom/example/commitwise/commitwise/Propagation;"
theorem se_REQUIRED {Z : State} {a0 : Array Value} (G : GH Z a0) : Sta Z Z.heap "com/example/commitwise/commitwise/Propagation" "REQUIRED" "Lcom/example/commitwise/commitwise/Propagation;" (.ref (s_REQUIRED Z)) ∧ Exa Z Z.heap (s_REQUIRED Z) "com/example/commitwise/commitwise/Propagation" := sta_ref ((and_e G.2.2.2.1).1) ⟨(wk G 6 rfl), (wk G 7 rfl)⟩
def s_REPEATABLE_READ (Z : State) : Addr := sa Z "com/example/commitwise/commitwise/Isolation" "REPEATABLE_READ" "Lcom/example/commitwise/commitwise/Isolation;"
theorem se_REPEATABLE_READ {Z : State} {a0 : Array Value} (G : GH Z a0) : Sta Z Z.heap "com/example/commitwise/commitwise/Isolation" "REPEATABLE_READ" "Lcom/example/commitwise/commitwise/Isolation;" (.ref (s_REPEATABLE_READ Z)) ∧ Exa Z Z.heap (s_REPEATABLE_READ Z) "com/example/commitwise/commitwise/Isolation" := sta_ref ((and_e (and_e G.2.2.2.1).2).1) ⟨(wk G 12 rfl), (wk G 13 rfl)⟩
def s_READ_COMMITTED (Z : State) : Addr := sa Z "com/example/commitwise/commitwise/Isolation" "READ_COMMITTED" "Lcom/example/commitwise/commitwise/Isolation;"
theorem se_READ_COMMITTED {Z : State} {a0 : Array Value} (G : GH Z a0) : Sta Z Z.heap "com/example/commitwise/commitwise/Isolation" "READ_COMMITTED" "Lcom/example/commitwise/commitwise/Isolation;" (.ref (s_READ_COMMITTED Z)) ∧ Exa Z Z.heap (s_READ_COMMITTED Z) "com/example/commitwise/commitwise/Isolation" := sta_ref ((and_e (and_e (and_e G.2.2.2.1).2).2).1) ⟨(wk G 12 rfl), (wk G 15 rfl)⟩
def s_NOT_SUPPORTED (Z : State) : Addr := sa Z "com/example/commitwise/commitwise/Propagation" "NOT_SUPPORTED" "Lcom/example/commitwise/commitwise/Propagation;"
theorem se_NOT_SUPPORTED {Z : State} {a0 : Array Value} (G : GH Z a0) : Sta Z Z.heap "com/example/commitwise/commitwise/Propagation" "NOT_SUPPORTED" "Lcom/example/commitwise/commitwise/Propagation;" (.ref (s_NOT_SUPPORTED Z)) ∧ Exa Z Z.heap (s_NOT_SUPPORTED Z) "com/example/commitwise/commitwise/Propagation" := sta_ref ((and_e (and_e (and_e (and_e G.2.2.2.1).2).2).2).1) ⟨(wk G 6 rfl), (wk G 107 rfl)⟩
def s_DEFAULT (Z : State) : Addr := sa Z "com/example/commitwise/commitwise/Isolation" "DEFAULT" "Lcom/example/commitwise/commitwise/Isolation;"
theorem se_DEFAULT {Z : State} {a0 : Array Value} (G : GH Z a0) : Sta Z Z.heap "com/example/commitwise/commitwise/Isolation" "DEFAULT" "Lcom/example/commitwise/commitwise/Isolation;" (.ref (s_DEFAULT Z)) ∧ Exa Z Z.heap (s_DEFAULT Z) "com/example/commitwise/commitwise/Isolation" := sta_ref ((and_e (and_e (and_e (and_e (and_e G.2.2.2.1).2).2).2).2).1) ⟨(wk G 12 rfl), (wk G 109 rfl)⟩
def s_MANDATORY (Z : State) : Addr := sa Z "com/example/commitwise/commitwise/Propagation" "MANDATORY" "Lcom/example/commitwise/commitwise/Propagation;"
theorem se_MANDATORY {Z : State} {a0 : Array Value} (G : GH Z a0) : Sta Z Z.heap "com/example/commitwise/commitwise/Propagation" "MANDATORY" "Lcom/example/commitwise/commitwise/Propagation;" (.ref (s_MANDATORY Z)) ∧ Exa Z Z.heap (s_MANDATORY Z) "com/example/commitwise/commitwise/Propagation" := sta_ref ((and_e (and_e (and_e (and_e (and_e (and_e G.2.2.2.1).2).2).2).2).2).1) ⟨(wk G 6 rfl), (wk G 111 rfl)⟩
def s_SERIALIZABLE (Z : State) : Addr := sa Z "com/example/commitwise/commitwise/Isolation" "SERIALIZABLE" "Lcom/example/commitwise/commitwise/Isolation;"
theorem se_SERIALIZABLE {Z : State} {a0 : Array Value} (G : GH Z a0) : Sta Z Z.heap "com/example/commitwise/commitwise/Isolation" "SERIALIZABLE" "Lcom/example/commitwise/commitwise/Isolation;" (.ref (s_SERIALIZABLE Z)) ∧ Exa Z Z.heap (s_SERIALIZABLE Z) "com/example/commitwise/commitwise/Isolation" := sta_ref ((and_e (and_e (and_e (and_e (and_e (and_e (and_e G.2.2.2.1).2).2).2).2).2).2).1) ⟨(wk G 12 rfl), (wk G 113 rfl)⟩
def s_READ_UNCOMMITTED (Z : State) : Addr := sa Z "com/example/commitwise/commitwise/Isolation" "READ_UNCOMMITTED" "Lcom/example/commitwise/commitwise/Isolation;"
theorem se_READ_UNCOMMITTED {Z : State} {a0 : Array Value} (G : GH Z a0) : Sta Z Z.heap "com/example/commitwise/commitwise/Isolation" "READ_UNCOMMITTED" "Lcom/example/commitwise/commitwise/Isolation;" (.ref (s_READ_UNCOMMITTED Z)) ∧ Exa Z Z.heap (s_READ_UNCOMMITTED Z) "com/example/commitwise/commitwise/Isolation" := sta_ref ((and_e (and_e (and_e (and_e (and_e (and_e (and_e (and_e G.2.2.2.1).2).2).2).2).2).2).2).1) ⟨(wk G 12 rfl), (wk G 115 rfl)⟩
def s_SUPPORTS (Z : State) : Addr := sa Z "com/example/commitwise/commitwise/Propagation" "SUPPORTS" "Lcom/example/commitwise/commitwise/Propagation;"
theorem se_SUPPORTS {Z : State} {a0 : Array Value} (G : GH Z a0) : Sta Z Z.heap "com/example/commitwise/commitwise/Propagation" "SUPPORTS" "Lcom/example/commitwise/commitwise/Propagation;" (.ref (s_SUPPORTS Z)) ∧ Exa Z Z.heap (s_SUPPORTS Z) "com/example/commitwise/commitwise/Propagation" := sta_ref ((and_e (and_e (and_e (and_e (and_e (and_e (and_e (and_e (and_e G.2.2.2.1).2).2).2).2).2).2).2).2).1) ⟨(wk G 6 rfl), (wk G 117 rfl)⟩
def s_REQUIRES_NEW (Z : State) : Addr := sa Z "com/example/commitwise/commitwise/Propagation" "REQUIRES_NEW" "Lcom/example/commitwise/commitwise/Propagation;"
theorem se_REQUIRES_NEW {Z : State} {a0 : Array Value} (G : GH Z a0) : Sta Z Z.heap "com/example/commitwise/commitwise/Propagation" "REQUIRES_NEW" "Lcom/example/commitwise/commitwise/Propagation;" (.ref (s_REQUIRES_NEW Z)) ∧ Exa Z Z.heap (s_REQUIRES_NEW Z) "com/example/commitwise/commitwise/Propagation" := sta_ref ((and_e (and_e (and_e (and_e (and_e (and_e (and_e (and_e (and_e (and_e G.2.2.2.1).2).2).2).2).2).2).2).2).2).1) ⟨(wk G 6 rfl), (wk G 119 rfl)⟩
def s_NESTED (Z : State) : Addr := sa Z "com/example/commitwise/commitwise/Propagation" "NESTED" "Lcom/example/commitwise/commitwise/Propagation;"
theorem se_NESTED {Z : State} {a0 : Array Value} (G : GH Z a0) : Sta Z Z.heap "com/example/commitwise/commitwise/Propagation" "NESTED" "Lcom/example/commitwise/commitwise/Propagation;" (.ref (s_NESTED Z)) ∧ Exa Z Z.heap (s_NESTED Z) "com/example/commitwise/commitwise/Propagation" := sta_ref ((and_e (and_e (and_e (and_e (and_e (and_e (and_e (and_e (and_e (and_e (and_e G.2.2.2.1).2).2).2).2).2).2).2).2).2).2).1) ⟨(wk G 6 rfl), (wk G 121 rfl)⟩
def s_NEVER (Z : State) : Addr := sa Z "com/example/commitwise/commitwise/Propagation" "NEVER" "Lcom/example/commitwise/commitwise/Propagation;"
theorem se_NEVER {Z : State} {a0 : Array Value} (G : GH Z a0) : Sta Z Z.heap "com/example/commitwise/commitwise/Propagation" "NEVER" "Lcom/example/commitwise/commitwise/Propagation;" (.ref (s_NEVER Z)) ∧ Exa Z Z.heap (s_NEVER Z) "com/example/commitwise/commitwise/Propagation" := sta_ref ((and_e (and_e (and_e (and_e (and_e (and_e (and_e (and_e (and_e (and_e (and_e G.2.2.2.1).2).2).2).2).2).2).2).2).2).2).2) ⟨(wk G 6 rfl), (wk G 134 rfl)⟩
theorem d1_0 : decode jdk_42_method_149_code 0 = .ok (.aload_n 0, 1) := by decide +kernel
theorem d1_1 : decode jdk_42_method_149_code 1 = .ok (.invokespecial 1, 3) := by decide +kernel
theorem d1_4 : decode jdk_42_method_149_code 4 = .ok (.iload_n 3, 1) := by decide +kernel
theorem d1_5 : decode jdk_42_method_149_code 5 = .ok (.ifCond .ne 22, 3) := by decide +kernel
theorem d1_8 : decode jdk_42_method_149_code 8 = .ok (.aload_n 0, 1) := by decide +kernel
theorem d1_9 : decode jdk_42_method_149_code 9 = .ok (.ldc 7, 2) := by decide +kernel
theorem d1_11 : decode jdk_42_method_149_code 11 = .ok (.getfield 9, 3) := by decide +kernel
theorem d1_14 : decode jdk_42_method_149_code 14 = .ok (.putfield 9, 3) := by decide +kernel
theorem d1_17 : decode jdk_42_method_149_code 17 = .ok (.aload_n 0, 1) := by decide +kernel
theorem d1_18 : decode jdk_42_method_149_code 18 = .ok (.ldc 7, 2) := by decide +kernel
theorem d1_20 : decode jdk_42_method_149_code 20 = .ok (.getfield 15, 3) := by decide +kernel
theorem d1_23 : decode jdk_42_method_149_code 23 = .ok (.putfield 15, 3) := by decide +kernel
theorem d1_26 : decode jdk_42_method_149_code 26 = .ok (.return_, 1) := by decide +kernel
theorem pn1 : plainName "java/lang/String" = true := by first | (simp [plainName, overriddenIn]; done) | decide +kernel
theorem d2_0 : decode jdk_42_method_3_code 0 = .ok (.aload_n 0, 1) := by decide +kernel
theorem d2_1 : decode jdk_42_method_3_code 1 = .ok (.aload_n 1, 1) := by decide +kernel
theorem d2_2 : decode jdk_42_method_3_code 2 = .ok (.iconst 0, 1) := by decide +kernel
theorem d2_3 : decode jdk_42_method_3_code 3 = .ok (.aload_n 1, 1) := by decide +kernel
theorem d2_4 : decode jdk_42_method_3_code 4 = .ok (.arraylength, 1) := by decide +kernel
theorem d2_5 : decode jdk_42_method_3_code 5 = .ok (.aconst_null, 1) := by decide +kernel
theorem pd1 : parseMethodDescriptor "([CIILjava/lang/Void;)V" = some ⟨[(.array .char), .int, .int, (.object "java/lang/Void")], none⟩ := by decide +kernel
theorem d2_6 : decode jdk_42_method_3_code 6 = .ok (.invokespecial 27, 3) := by decide +kernel
theorem d2_9 : decode jdk_42_method_3_code 9 = .ok (.return_, 1) := by decide +kernel
theorem d3_0 : decode jdk_43_method_3_code 0 = .ok (.iload_n 0, 1) := by decide +kernel
theorem d3_1 : decode jdk_43_method_3_code 1 = .ok (.sipush 255, 3) := by decide +kernel
theorem d3_4 : decode jdk_43_method_3_code 4 = .ok (.if_icmp .gt 7, 3) := by decide +kernel
theorem d3_7 : decode jdk_43_method_3_code 7 = .ok (.iconst 1, 1) := by decide +kernel
theorem d3_8 : decode jdk_43_method_3_code 8 = .ok (.goto 4, 3) := by decide +kernel
theorem d3_12 : decode jdk_43_method_3_code 12 = .ok (.ireturn, 1) := by decide +kernel
theorem pn2 : plainName "java/lang/StringLatin1" = true := by first | (simp [plainName, overriddenIn]; done) | decide +kernel
theorem d4_0 : decode jdk_43_method_46_code 0 = .ok (.iconst 1, 1) := by decide +kernel
theorem d4_1 : decode jdk_43_method_46_code 1 = .ok (.newarray .byte, 2) := by decide +kernel
theorem d4_3 : decode jdk_43_method_46_code 3 = .ok (.dup, 1) := by decide +kernel
theorem d4_4 : decode jdk_43_method_46_code 4 = .ok (.iconst 0, 1) := by decide +kernel
theorem d4_5 : decode jdk_43_method_46_code 5 = .ok (.iload_n 0, 1) := by decide +kernel
theorem d4_6 : decode jdk_43_method_46_code 6 = .ok (.i2b, 1) := by decide +kernel
theorem d4_7 : decode jdk_43_method_46_code 7 = .ok (.bastore, 1) := by decide +kernel
theorem d4_8 : decode jdk_43_method_46_code 8 = .ok (.areturn, 1) := by decide +kernel
theorem d5_0 : decode jdk_42_method_151_code 0 = .ok (.aload_n 0, 1) := by decide +kernel
theorem d5_1 : decode jdk_42_method_151_code 1 = .ok (.invokespecial 1, 3) := by decide +kernel
theorem d5_4 : decode jdk_42_method_151_code 4 = .ok (.aload_n 0, 1) := by decide +kernel
theorem d5_5 : decode jdk_42_method_151_code 5 = .ok (.aload_n 1, 1) := by decide +kernel
theorem d5_6 : decode jdk_42_method_151_code 6 = .ok (.putfield 9, 3) := by decide +kernel
theorem d5_9 : decode jdk_42_method_151_code 9 = .ok (.aload_n 0, 1) := by decide +kernel
theorem d5_10 : decode jdk_42_method_151_code 10 = .ok (.iload_n 2, 1) := by decide +kernel
theorem d5_11 : decode jdk_42_method_151_code 11 = .ok (.putfield 15, 3) := by decide +kernel
theorem d5_14 : decode jdk_42_method_151_code 14 = .ok (.return_, 1) := by decide +kernel
theorem d6_0 : decode jdk_42_method_139_code 0 = .ok (.getstatic 38, 3) := by decide +kernel
theorem d6_3 : decode jdk_42_method_139_code 3 = .ok (.ifCond .eq 23, 3) := by decide +kernel
theorem d6_6 : decode jdk_42_method_139_code 6 = .ok (.iload_n 0, 1) := by decide +kernel
theorem pd2 : parseMethodDescriptor "(C)Z" = some ⟨[.char], some .boolean⟩ := by decide +kernel
theorem d6_7 : decode jdk_42_method_139_code 7 = .ok (.invokestatic 1015, 3) := by decide +kernel
theorem d6_10 : decode jdk_42_method_139_code 10 = .ok (.ifCond .eq 16, 3) := by decide +kernel
theorem d6_13 : decode jdk_42_method_139_code 13 = .ok (.new 10, 3) := by decide +kernel
theorem d6_16 : decode jdk_42_method_139_code 16 = .ok (.dup, 1) := by decide +kernel
theorem d6_17 : decode jdk_42_method_139_code 17 = .ok (.iload_n 0, 1) := by decide +kernel
theorem pd3 : parseMethodDescriptor "(C)[B" = some ⟨[.char], some (.array .byte)⟩ := by decide +kernel
theorem d6_18 : decode jdk_42_method_139_code 18 = .ok (.invokestatic 1018, 3) := by decide +kernel
theorem d6_21 : decode jdk_42_method_139_code 21 = .ok (.iconst 0, 1) := by decide +kernel
theorem pd4 : parseMethodDescriptor "([BB)V" = some ⟨[(.array .byte), .byte], none⟩ := by decide +kernel
theorem d6_22 : decode jdk_42_method_139_code 22 = .ok (.invokespecial 209, 3) := by decide +kernel
theorem d6_25 : decode jdk_42_method_139_code 25 = .ok (.areturn, 1) := by decide +kernel
theorem d7_0 : decode jdk_42_method_66_code 0 = .ok (.aload_n 0, 1) := by decide +kernel
theorem d7_1 : decode jdk_42_method_66_code 1 = .ok (.aload_n 1, 1) := by decide +kernel
theorem d7_2 : decode jdk_42_method_66_code 2 = .ok (.if_acmp .ne 5, 3) := by decide +kernel
theorem d7_5 : decode jdk_42_method_66_code 5 = .ok (.iconst 1, 1) := by decide +kernel
theorem d7_6 : decode jdk_42_method_66_code 6 = .ok (.ireturn, 1) := by decide +kernel
theorem d8_0 : decode jdk_31_method_11_code 0 = .ok (.aload_n 0, 1) := by decide +kernel
theorem d8_1 : decode jdk_31_method_11_code 1 = .ok (.ifnonnull 12, 3) := by decide +kernel
theorem d8_13 : decode jdk_31_method_11_code 13 = .ok (.aload_n 0, 1) := by decide +kernel
theorem d8_14 : decode jdk_31_method_11_code 14 = .ok (.areturn, 1) := by decide +kernel
theorem pn3 : plainName "java/util/Objects" = true := by first | (simp [plainName, overriddenIn]; done) | decide +kernel
theorem d9_0 : decode method_2_code 0 = .ok (.iload_n 0, 1) := by decide +kernel
theorem d9_1 : decode method_2_code 1 = .ok (.ldc 7, 2) := by decide +kernel
theorem d9_3 : decode method_2_code 3 = .ok (.iand, 1) := by decide +kernel
theorem d9_4 : decode method_2_code 4 = .ok (.bipush 7, 2) := by decide +kernel
theorem d9_6 : decode method_2_code 6 = .ok (.irem, 1) := by decide +kernel
theorem d9_7 : decode method_2_code 7 = .ok (.istore_n 1, 1) := by decide +kernel
theorem d9_8 : decode method_2_code 8 = .ok (.iload_n 1, 1) := by decide +kernel
theorem d9_9 : decode method_2_code 9 = .ok (.ifCond .ne 7, 3) := by decide +kernel
theorem d9_12 : decode method_2_code 12 = .ok (.getstatic 8, 3) := by decide +kernel
theorem d9_15 : decode method_2_code 15 = .ok (.areturn, 1) := by decide +kernel
theorem d9_16 : decode method_2_code 16 = .ok (.iload_n 1, 1) := by decide +kernel
theorem d9_17 : decode method_2_code 17 = .ok (.iconst 1, 1) := by decide +kernel
theorem d9_18 : decode method_2_code 18 = .ok (.if_icmp .ne 7, 3) := by decide +kernel
theorem d9_21 : decode method_2_code 21 = .ok (.getstatic 14, 3) := by decide +kernel
theorem d9_24 : decode method_2_code 24 = .ok (.areturn, 1) := by decide +kernel
theorem d9_25 : decode method_2_code 25 = .ok (.iload_n 1, 1) := by decide +kernel
theorem d9_26 : decode method_2_code 26 = .ok (.iconst 2, 1) := by decide +kernel
theorem d9_27 : decode method_2_code 27 = .ok (.if_icmp .ne 7, 3) := by decide +kernel
theorem d9_30 : decode method_2_code 30 = .ok (.getstatic 17, 3) := by decide +kernel
theorem d9_33 : decode method_2_code 33 = .ok (.areturn, 1) := by decide +kernel
theorem d9_34 : decode method_2_code 34 = .ok (.iload_n 1, 1) := by decide +kernel
theorem d9_35 : decode method_2_code 35 = .ok (.iconst 3, 1) := by decide +kernel
theorem d9_36 : decode method_2_code 36 = .ok (.if_icmp .ne 7, 3) := by decide +kernel
theorem d9_39 : decode method_2_code 39 = .ok (.getstatic 20, 3) := by decide +kernel
theorem d9_42 : decode method_2_code 42 = .ok (.areturn, 1) := by decide +kernel
theorem d9_43 : decode method_2_code 43 = .ok (.iload_n 1, 1) := by decide +kernel
theorem d9_44 : decode method_2_code 44 = .ok (.iconst 4, 1) := by decide +kernel
theorem d9_45 : decode method_2_code 45 = .ok (.if_icmp .ne 7, 3) := by decide +kernel
theorem d9_48 : decode method_2_code 48 = .ok (.getstatic 23, 3) := by decide +kernel
theorem d9_51 : decode method_2_code 51 = .ok (.areturn, 1) := by decide +kernel
theorem d9_52 : decode method_2_code 52 = .ok (.iload_n 1, 1) := by decide +kernel
theorem d9_53 : decode method_2_code 53 = .ok (.iconst 5, 1) := by decide +kernel
theorem d9_54 : decode method_2_code 54 = .ok (.if_icmp .ne 7, 3) := by decide +kernel
theorem d9_57 : decode method_2_code 57 = .ok (.getstatic 26, 3) := by decide +kernel
theorem d9_60 : decode method_2_code 60 = .ok (.areturn, 1) := by decide +kernel
theorem d9_61 : decode method_2_code 61 = .ok (.getstatic 29, 3) := by decide +kernel
theorem d9_64 : decode method_2_code 64 = .ok (.areturn, 1) := by decide +kernel
theorem pn4 : plainName "com/example/commitwise/commitwise/TransactionDefinitionWithIsolationPinLaw" = true := by first | (simp [plainName, overriddenIn]; done) | decide +kernel
theorem d10_0 : decode method_3_code 0 = .ok (.iload_n 0, 1) := by decide +kernel
theorem d10_1 : decode method_3_code 1 = .ok (.ldc 7, 2) := by decide +kernel
theorem d10_3 : decode method_3_code 3 = .ok (.iand, 1) := by decide +kernel
theorem d10_4 : decode method_3_code 4 = .ok (.iconst 5, 1) := by decide +kernel
theorem d10_5 : decode method_3_code 5 = .ok (.irem, 1) := by decide +kernel
theorem d10_6 : decode method_3_code 6 = .ok (.istore_n 1, 1) := by decide +kernel
theorem d10_7 : decode method_3_code 7 = .ok (.iload_n 1, 1) := by decide +kernel
theorem d10_8 : decode method_3_code 8 = .ok (.ifCond .ne 7, 3) := by decide +kernel
theorem d10_11 : decode method_3_code 11 = .ok (.getstatic 32, 3) := by decide +kernel
theorem d10_14 : decode method_3_code 14 = .ok (.areturn, 1) := by decide +kernel
theorem d10_15 : decode method_3_code 15 = .ok (.iload_n 1, 1) := by decide +kernel
theorem d10_16 : decode method_3_code 16 = .ok (.iconst 1, 1) := by decide +kernel
theorem d10_17 : decode method_3_code 17 = .ok (.if_icmp .ne 7, 3) := by decide +kernel
theorem d10_20 : decode method_3_code 20 = .ok (.getstatic 38, 3) := by decide +kernel
theorem d10_23 : decode method_3_code 23 = .ok (.areturn, 1) := by decide +kernel
theorem d10_24 : decode method_3_code 24 = .ok (.iload_n 1, 1) := by decide +kernel
theorem d10_25 : decode method_3_code 25 = .ok (.iconst 2, 1) := by decide +kernel
theorem d10_26 : decode method_3_code 26 = .ok (.if_icmp .ne 7, 3) := by decide +kernel
theorem d10_29 : decode method_3_code 29 = .ok (.getstatic 41, 3) := by decide +kernel
theorem d10_32 : decode method_3_code 32 = .ok (.areturn, 1) := by decide +kernel
theorem d10_33 : decode method_3_code 33 = .ok (.iload_n 1, 1) := by decide +kernel
theorem d10_34 : decode method_3_code 34 = .ok (.iconst 3, 1) := by decide +kernel
theorem d10_35 : decode method_3_code 35 = .ok (.if_icmp .ne 7, 3) := by decide +kernel
theorem d10_38 : decode method_3_code 38 = .ok (.getstatic 44, 3) := by decide +kernel
theorem d10_41 : decode method_3_code 41 = .ok (.areturn, 1) := by decide +kernel
theorem d10_42 : decode method_3_code 42 = .ok (.getstatic 47, 3) := by decide +kernel
theorem d10_45 : decode method_3_code 45 = .ok (.areturn, 1) := by decide +kernel
theorem d11_0 : decode jdk_30_method_1_code 0 = .ok (.aload_n 0, 1) := by decide +kernel
theorem d11_1 : decode jdk_30_method_1_code 1 = .ok (.invokespecial 1, 3) := by decide +kernel
theorem d11_4 : decode jdk_30_method_1_code 4 = .ok (.return_, 1) := by decide +kernel
theorem pn5 : plainName "java/lang/Record" = true := by first | (simp [plainName, overriddenIn]; done) | decide +kernel
theorem d12_0 : decode prog_30_method_1_code 0 = .ok (.aload_n 0, 1) := by decide +kernel
theorem pd5 : parseMethodDescriptor "()V" = some ⟨[], none⟩ := by decide +kernel
theorem d12_1 : decode prog_30_method_1_code 1 = .ok (.invokespecial 1, 3) := by decide +kernel
theorem d12_4 : decode prog_30_method_1_code 4 = .ok (.aload_n 1, 1) := by decide +kernel
theorem d12_5 : decode prog_30_method_1_code 5 = .ok (.ldc 7, 2) := by decide +kernel
theorem pd6 : parseMethodDescriptor "(Ljava/lang/Object;Ljava/lang/String;)Ljava/lang/Object;" = some ⟨[(.object "java/lang/Object"), (.object "java/lang/String")], some (.object "java/lang/Object")⟩ := by decide +kernel
theorem d12_7 : decode prog_30_method_1_code 7 = .ok (.invokestatic 9, 3) := by decide +kernel
theorem d12_10 : decode prog_30_method_1_code 10 = .ok (.pop, 1) := by decide +kernel
theorem d12_11 : decode prog_30_method_1_code 11 = .ok (.aload_n 2, 1) := by decide +kernel
theorem d12_12 : decode prog_30_method_1_code 12 = .ok (.ldc 15, 2) := by decide +kernel
theorem d12_14 : decode prog_30_method_1_code 14 = .ok (.invokestatic 9, 3) := by decide +kernel
theorem d12_17 : decode prog_30_method_1_code 17 = .ok (.pop, 1) := by decide +kernel
theorem d12_18 : decode prog_30_method_1_code 18 = .ok (.iload_n 3, 1) := by decide +kernel
theorem d12_19 : decode prog_30_method_1_code 19 = .ok (.iconst (-1), 1) := by decide +kernel
theorem d12_20 : decode prog_30_method_1_code 20 = .ok (.if_icmp .ge 17, 3) := by decide +kernel
theorem d12_37 : decode prog_30_method_1_code 37 = .ok (.aload_n 0, 1) := by decide +kernel
theorem d12_38 : decode prog_30_method_1_code 38 = .ok (.aload_n 1, 1) := by decide +kernel
theorem d12_39 : decode prog_30_method_1_code 39 = .ok (.putfield 28, 3) := by decide +kernel
theorem d12_42 : decode prog_30_method_1_code 42 = .ok (.aload_n 0, 1) := by decide +kernel
theorem d12_43 : decode prog_30_method_1_code 43 = .ok (.aload_n 2, 1) := by decide +kernel
theorem d12_44 : decode prog_30_method_1_code 44 = .ok (.putfield 31, 3) := by decide +kernel
theorem d12_47 : decode prog_30_method_1_code 47 = .ok (.aload_n 0, 1) := by decide +kernel
theorem d12_48 : decode prog_30_method_1_code 48 = .ok (.iload_n 3, 1) := by decide +kernel
theorem d12_49 : decode prog_30_method_1_code 49 = .ok (.putfield 34, 3) := by decide +kernel
theorem d12_52 : decode prog_30_method_1_code 52 = .ok (.aload_n 0, 1) := by decide +kernel
theorem d12_53 : decode prog_30_method_1_code 53 = .ok (.iload 4, 2) := by decide +kernel
theorem d12_55 : decode prog_30_method_1_code 55 = .ok (.putfield 38, 3) := by decide +kernel
theorem d12_58 : decode prog_30_method_1_code 58 = .ok (.aload_n 0, 1) := by decide +kernel
theorem d12_59 : decode prog_30_method_1_code 59 = .ok (.aload 5, 2) := by decide +kernel
theorem d12_61 : decode prog_30_method_1_code 61 = .ok (.putfield 42, 3) := by decide +kernel
theorem d12_64 : decode prog_30_method_1_code 64 = .ok (.return_, 1) := by decide +kernel
theorem pn6 : plainName "com/example/commitwise/commitwise/TransactionDefinition" = true := by first | (simp [plainName, overriddenIn]; done) | decide +kernel
theorem d13_0 : decode prog_30_method_14_code 0 = .ok (.aload_n 0, 1) := by decide +kernel
theorem d13_1 : decode prog_30_method_14_code 1 = .ok (.getfield 42, 3) := by decide +kernel
theorem d13_4 : decode prog_30_method_14_code 4 = .ok (.areturn, 1) := by decide +kernel
theorem d14_0 : decode prog_30_method_10_code 0 = .ok (.aload_n 0, 1) := by decide +kernel
theorem d14_1 : decode prog_30_method_10_code 1 = .ok (.getfield 28, 3) := by decide +kernel
theorem d14_4 : decode prog_30_method_10_code 4 = .ok (.areturn, 1) := by decide +kernel
theorem d15_0 : decode prog_30_method_11_code 0 = .ok (.aload_n 0, 1) := by decide +kernel
theorem d15_1 : decode prog_30_method_11_code 1 = .ok (.getfield 31, 3) := by decide +kernel
theorem d15_4 : decode prog_30_method_11_code 4 = .ok (.areturn, 1) := by decide +kernel
theorem d16_0 : decode prog_30_method_12_code 0 = .ok (.aload_n 0, 1) := by decide +kernel
theorem d16_1 : decode prog_30_method_12_code 1 = .ok (.getfield 34, 3) := by decide +kernel
theorem d16_4 : decode prog_30_method_12_code 4 = .ok (.ireturn, 1) := by decide +kernel
theorem d17_0 : decode prog_30_method_13_code 0 = .ok (.aload_n 0, 1) := by decide +kernel
theorem d17_1 : decode prog_30_method_13_code 1 = .ok (.getfield 38, 3) := by decide +kernel
theorem d17_4 : decode prog_30_method_13_code 4 = .ok (.ireturn, 1) := by decide +kernel
theorem d18_0 : decode prog_30_method_3_code 0 = .ok (.new 17, 3) := by decide +kernel
theorem d18_3 : decode prog_30_method_3_code 3 = .ok (.dup, 1) := by decide +kernel
theorem d18_4 : decode prog_30_method_3_code 4 = .ok (.aload_n 0, 1) := by decide +kernel
theorem d18_5 : decode prog_30_method_3_code 5 = .ok (.getfield 28, 3) := by decide +kernel
theorem d18_8 : decode prog_30_method_3_code 8 = .ok (.aload_n 1, 1) := by decide +kernel
theorem d18_9 : decode prog_30_method_3_code 9 = .ok (.aload_n 0, 1) := by decide +kernel
theorem d18_10 : decode prog_30_method_3_code 10 = .ok (.getfield 34, 3) := by decide +kernel
theorem d18_13 : decode prog_30_method_3_code 13 = .ok (.aload_n 0, 1) := by decide +kernel
theorem d18_14 : decode prog_30_method_3_code 14 = .ok (.getfield 38, 3) := by decide +kernel
theorem d18_17 : decode prog_30_method_3_code 17 = .ok (.aload_n 0, 1) := by decide +kernel
theorem d18_18 : decode prog_30_method_3_code 18 = .ok (.getfield 42, 3) := by decide +kernel
theorem pd7 : parseMethodDescriptor "(Lcom/example/commitwise/commitwise/Propagation;Lcom/example/commitwise/commitwise/Isolation;IZLjava/lang/String;)V" = some ⟨[(.object "com/example/commitwise/commitwise/Propagation"), (.object "com/example/commitwise/commitwise/Isolation"), .int, .boolean, (.object "java/lang/String")], none⟩ := by decide +kernel
theorem d18_21 : decode prog_30_method_3_code 21 = .ok (.invokespecial 46, 3) := by decide +kernel
theorem d18_24 : decode prog_30_method_3_code 24 = .ok (.areturn, 1) := by decide +kernel
theorem d19_0 : decode method_4_code 0 = .ok (.iload_n 0, 1) := by decide +kernel
theorem d19_1 : decode method_4_code 1 = .ok (.iconst 2, 1) := by decide +kernel
theorem d19_2 : decode method_4_code 2 = .ok (.iand, 1) := by decide +kernel
theorem d19_3 : decode method_4_code 3 = .ok (.ifCond .eq 5, 3) := by decide +kernel
theorem d19_8 : decode method_4_code 8 = .ok (.iload_n 1, 1) := by decide +kernel
theorem d19_9 : decode method_4_code 9 = .ok (.bipush 16, 2) := by decide +kernel
theorem d19_11 : decode method_4_code 11 = .ok (.iushr, 1) := by decide +kernel
theorem d19_12 : decode method_4_code 12 = .ok (.iconst 3, 1) := by decide +kernel
theorem d19_13 : decode method_4_code 13 = .ok (.iand, 1) := by decide +kernel
theorem d19_14 : decode method_4_code 14 = .ok (.istore_n 2, 1) := by decide +kernel
theorem d19_15 : decode method_4_code 15 = .ok (.iload_n 1, 1) := by decide +kernel
theorem d19_16 : decode method_4_code 16 = .ok (.sipush 255, 3) := by decide +kernel
theorem d19_19 : decode method_4_code 19 = .ok (.iand, 1) := by decide +kernel
theorem d19_20 : decode method_4_code 20 = .ok (.i2c, 1) := by decide +kernel
theorem d19_21 : decode method_4_code 21 = .ok (.istore_n 3, 1) := by decide +kernel
theorem d19_22 : decode method_4_code 22 = .ok (.iload_n 1, 1) := by decide +kernel
theorem d19_23 : decode method_4_code 23 = .ok (.bipush 8, 2) := by decide +kernel
theorem d19_25 : decode method_4_code 25 = .ok (.iushr, 1) := by decide +kernel
theorem d19_26 : decode method_4_code 26 = .ok (.sipush 255, 3) := by decide +kernel
theorem d19_29 : decode method_4_code 29 = .ok (.iand, 1) := by decide +kernel
theorem d19_30 : decode method_4_code 30 = .ok (.i2c, 1) := by decide +kernel
theorem d19_31 : decode method_4_code 31 = .ok (.istore 4, 2) := by decide +kernel
theorem d19_33 : decode method_4_code 33 = .ok (.iload_n 1, 1) := by decide +kernel
theorem d19_34 : decode method_4_code 34 = .ok (.bipush 24, 2) := by decide +kernel
theorem d19_36 : decode method_4_code 36 = .ok (.iushr, 1) := by decide +kernel
theorem d19_37 : decode method_4_code 37 = .ok (.sipush 255, 3) := by decide +kernel
theorem d19_40 : decode method_4_code 40 = .ok (.iand, 1) := by decide +kernel
theorem d19_41 : decode method_4_code 41 = .ok (.i2c, 1) := by decide +kernel
theorem d19_42 : decode method_4_code 42 = .ok (.istore 5, 2) := by decide +kernel
theorem d19_44 : decode method_4_code 44 = .ok (.iload_n 2, 1) := by decide +kernel
theorem d19_45 : decode method_4_code 45 = .ok (.ifCond .ne 14, 3) := by decide +kernel
theorem d19_48 : decode method_4_code 48 = .ok (.new 50, 3) := by decide +kernel
theorem d19_51 : decode method_4_code 51 = .ok (.dup, 1) := by decide +kernel
theorem d19_52 : decode method_4_code 52 = .ok (.iconst 0, 1) := by decide +kernel
theorem d19_53 : decode method_4_code 53 = .ok (.newarray .char, 2) := by decide +kernel
theorem pd8 : parseMethodDescriptor "([C)V" = some ⟨[(.array .char)], none⟩ := by decide +kernel
theorem d19_55 : decode method_4_code 55 = .ok (.invokespecial 52, 3) := by decide +kernel
theorem d19_58 : decode method_4_code 58 = .ok (.areturn, 1) := by decide +kernel
theorem d19_59 : decode method_4_code 59 = .ok (.iload_n 2, 1) := by decide +kernel
theorem d19_60 : decode method_4_code 60 = .ok (.iconst 1, 1) := by decide +kernel
theorem d19_61 : decode method_4_code 61 = .ok (.if_icmp .ne 8, 3) := by decide +kernel
theorem d19_64 : decode method_4_code 64 = .ok (.iload_n 3, 1) := by decide +kernel
theorem pd9 : parseMethodDescriptor "(C)Ljava/lang/String;" = some ⟨[.char], some (.object "java/lang/String")⟩ := by decide +kernel
theorem d19_65 : decode method_4_code 65 = .ok (.invokestatic 55, 3) := by decide +kernel
theorem d19_68 : decode method_4_code 68 = .ok (.areturn, 1) := by decide +kernel
theorem d19_69 : decode method_4_code 69 = .ok (.iload_n 2, 1) := by decide +kernel
theorem d19_70 : decode method_4_code 70 = .ok (.iconst 2, 1) := by decide +kernel
theorem d19_71 : decode method_4_code 71 = .ok (.if_icmp .ne 29, 3) := by decide +kernel
theorem d19_74 : decode method_4_code 74 = .ok (.iconst 2, 1) := by decide +kernel
theorem d19_75 : decode method_4_code 75 = .ok (.newarray .char, 2) := by decide +kernel
theorem d19_77 : decode method_4_code 77 = .ok (.astore 6, 2) := by decide +kernel
theorem d19_79 : decode method_4_code 79 = .ok (.aload 6, 2) := by decide +kernel
theorem d19_81 : decode method_4_code 81 = .ok (.iconst 0, 1) := by decide +kernel
theorem d19_82 : decode method_4_code 82 = .ok (.iload_n 3, 1) := by decide +kernel
theorem d19_83 : decode method_4_code 83 = .ok (.castore, 1) := by decide +kernel
theorem d19_84 : decode method_4_code 84 = .ok (.aload 6, 2) := by decide +kernel
theorem d19_86 : decode method_4_code 86 = .ok (.iconst 1, 1) := by decide +kernel
theorem d19_87 : decode method_4_code 87 = .ok (.iload 4, 2) := by decide +kernel
theorem d19_89 : decode method_4_code 89 = .ok (.castore, 1) := by decide +kernel
theorem d19_90 : decode method_4_code 90 = .ok (.new 50, 3) := by decide +kernel
theorem d19_93 : decode method_4_code 93 = .ok (.dup, 1) := by decide +kernel
theorem d19_94 : decode method_4_code 94 = .ok (.aload 6, 2) := by decide +kernel
theorem d19_96 : decode method_4_code 96 = .ok (.invokespecial 52, 3) := by decide +kernel
theorem d19_99 : decode method_4_code 99 = .ok (.areturn, 1) := by decide +kernel
theorem d19_100 : decode method_4_code 100 = .ok (.iconst 3, 1) := by decide +kernel
theorem d19_101 : decode method_4_code 101 = .ok (.newarray .char, 2) := by decide +kernel
theorem d19_103 : decode method_4_code 103 = .ok (.astore 6, 2) := by decide +kernel
theorem d19_105 : decode method_4_code 105 = .ok (.aload 6, 2) := by decide +kernel
theorem d19_107 : decode method_4_code 107 = .ok (.iconst 0, 1) := by decide +kernel
theorem d19_108 : decode method_4_code 108 = .ok (.iload_n 3, 1) := by decide +kernel
theorem d19_109 : decode method_4_code 109 = .ok (.castore, 1) := by decide +kernel
theorem d19_110 : decode method_4_code 110 = .ok (.aload 6, 2) := by decide +kernel
theorem d19_112 : decode method_4_code 112 = .ok (.iconst 1, 1) := by decide +kernel
theorem d19_113 : decode method_4_code 113 = .ok (.iload 4, 2) := by decide +kernel
theorem d19_115 : decode method_4_code 115 = .ok (.castore, 1) := by decide +kernel
theorem d19_116 : decode method_4_code 116 = .ok (.aload 6, 2) := by decide +kernel
theorem d19_118 : decode method_4_code 118 = .ok (.iconst 2, 1) := by decide +kernel
theorem d19_119 : decode method_4_code 119 = .ok (.iload 5, 2) := by decide +kernel
theorem d19_121 : decode method_4_code 121 = .ok (.castore, 1) := by decide +kernel
theorem d19_122 : decode method_4_code 122 = .ok (.new 50, 3) := by decide +kernel
theorem d19_125 : decode method_4_code 125 = .ok (.dup, 1) := by decide +kernel
theorem d19_126 : decode method_4_code 126 = .ok (.aload 6, 2) := by decide +kernel
theorem d19_128 : decode method_4_code 128 = .ok (.invokespecial 52, 3) := by decide +kernel
theorem d19_131 : decode method_4_code 131 = .ok (.areturn, 1) := by decide +kernel
theorem d19_6 : decode method_4_code 6 = .ok (.aconst_null, 1) := by decide +kernel
theorem d19_7 : decode method_4_code 7 = .ok (.areturn, 1) := by decide +kernel
theorem pd10 : parseMethodDescriptor "(I)Lcom/example/commitwise/commitwise/Propagation;" = some ⟨[.int], some (.object "com/example/commitwise/commitwise/Propagation")⟩ := by decide +kernel
theorem pd11 : parseMethodDescriptor "(I)Lcom/example/commitwise/commitwise/Isolation;" = some ⟨[.int], some (.object "com/example/commitwise/commitwise/Isolation")⟩ := by decide +kernel
theorem pd12 : parseMethodDescriptor "(II)Ljava/lang/String;" = some ⟨[.int, .int], some (.object "java/lang/String")⟩ := by decide +kernel
theorem pd13 : parseMethodDescriptor "(Lcom/example/commitwise/commitwise/Isolation;)Lcom/example/commitwise/commitwise/TransactionDefinition;" = some ⟨[(.object "com/example/commitwise/commitwise/Isolation")], some (.object "com/example/commitwise/commitwise/TransactionDefinition")⟩ := by decide +kernel
theorem pd14 : parseMethodDescriptor "()Ljava/lang/String;" = some ⟨[], some (.object "java/lang/String")⟩ := by decide +kernel
theorem pd15 : parseMethodDescriptor "()Lcom/example/commitwise/commitwise/Propagation;" = some ⟨[], some (.object "com/example/commitwise/commitwise/Propagation")⟩ := by decide +kernel
theorem pd16 : parseMethodDescriptor "()Lcom/example/commitwise/commitwise/Isolation;" = some ⟨[], some (.object "com/example/commitwise/commitwise/Isolation")⟩ := by decide +kernel
theorem pd17 : parseMethodDescriptor "()I" = some ⟨[], some .int⟩ := by decide +kernel
theorem pd18 : parseMethodDescriptor "()Z" = some ⟨[], some .boolean⟩ := by decide +kernel
theorem pd19 : parseMethodDescriptor "(Ljava/lang/Object;)Z" = some ⟨[(.object "java/lang/Object")], some .boolean⟩ := by decide +kernel
theorem ef_new0in (m : MethodId) (a : Addr) (b : Addr)  : entryFrame m #[(.ref a), (.ref b), (.int (0 : Int32)), (.int (0 : Int32)), .null] 6 = mkF m 0 #[.val (.ref a), .val (.ref b), .val (.int (0 : Int32)), .val (.int (0 : Int32)), .val .null, .unset] [] := by first | (simp [entryFrame, mkF, argsToLocals, Value.category]; done) | rfl
def Q_new0in (Z : State) (a : Addr) (b : Addr)  (h0 : Heap) (h : Heap) : Prop := Str Z h a []
set_option maxRecDepth 65536 in
set_option maxHeartbeats 40000000 in
theorem c_new0in (l : Launch) {Z : State} {a0 : Array Value} (G : GH Z a0) (a : Addr) (b : Addr)  (h0 : Heap) (O0 : Old Z Z.heap.size h0) (p1 : Exa Z h0 a "java/lang/String") (p2 : Z.heap.size ≤ a) (p3 : Fld Z h0 a "java/lang/String" "value" "[B" .null) (p4 : Fld Z h0 a "java/lang/String" "coder" "B" (.int (0 : Int32))) : Con true EL1 l Z (⟨"java/lang/String", "<init>", "([CIILjava/lang/Void;)V"⟩ : MethodName) jdk_42_method_149_code 6 none [] ({ frames := 1, cells := 4, slots := 8, locals := 12 } : Room) #[(.ref a), (.ref b), (.int (0 : Int32)), (.int (0 : Int32)), .null] h0 [a] (rno (Q_new0in Z a b h0)) := by
  refine con_of (a0 := a0) pn1 (fun q => nomatch q) (ew1 G) O0 (fun m => ef_new0in m a b) ?_
  intro p_ e_ s_ m_ below_ meth_ c_ hby hml hret hlk hnm
  refine go_aload_n (pc' := 1) (hb hby d1_0) rfl rfl rfl ?_
  refine go_initO (pc' := 4) (Wd := 0) (wk G 30 rfl) (wk G 31 rfl) (wk G 32 rfl) (by rw [hml]; rfl) (by decide) (by decide) (by decide) (hb hby d1_1) rfl ?_
  refine go_iload_n (pc' := 5) (hb hby d1_4) rfl rfl ?_
  refine go_ifF (pc' := 8) (hb hby d1_5) rfl (by decide) ?_
  refine go_empty G rfl (by decide) hnm rfl (wk G 33 rfl) (wk G 39 rfl) (wk G 40 rfl) (wk G 35 rfl) (wk G 36 rfl) (wk G 20 rfl) p1 p3 p4 p2 (hb hby d1_8) (hb hby d1_9) (hb hby d1_11) (hb hby d1_14) (hb hby d1_17) (hb hby d1_18) (hb hby d1_20) (hb hby d1_23) (by decide) (by decide) (fun h1 S2 K3 => ?_)
  have K4 : Keep h0 h1 [a] := ((Keep.refl h0 [a]).trans K3 (allS (Or.inl (by simp)) all0))
  refine go_return hret hlk (hb hby d1_26) (by decide) (by decide) ⟨rfl, S2⟩ K4
theorem ef_new0 (m : MethodId) (a : Addr) (b : Addr)  : entryFrame m #[(.ref a), (.ref b)] 2 = mkF m 0 #[.val (.ref a), .val (.ref b)] [] := by first | (simp [entryFrame, mkF, argsToLocals, Value.category]; done) | rfl
def Q_new0 (Z : State) (a : Addr) (b : Addr) (k : ClassId) (h0 : Heap) (h : Heap) : Prop := Str Z h a []
set_option maxRecDepth 65536 in
set_option maxHeartbeats 40000000 in
theorem c_new0 (l : Launch) {Z : State} {a0 : Array Value} (G : GH Z a0) (a : Addr) (b : Addr) (k : ClassId) (h0 : Heap) (O0 : Old Z Z.heap.size h0) (p1 : Exa Z h0 a "java/lang/String") (p2 : Z.heap.size ≤ a) (p3 : Fld Z h0 a "java/lang/String" "value" "[B" .null) (p4 : Fld Z h0 a "java/lang/String" "coder" "B" (.int (0 : Int32))) (p5 : Arv Z h0 b k .char (0 : Int32) [] (.int 0)) : Con true EL1 l Z (⟨"java/lang/String", "<init>", "([C)V"⟩ : MethodName) jdk_42_method_3_code 2 none [] ({ frames := 2, cells := 4, slots := 8, locals := 29 } : Room) #[(.ref a), (.ref b)] h0 [a] (rno (Q_new0 Z a b k h0)) := by
  refine con_of (a0 := a0) pn1 (fun q => nomatch q) (ew1 G) O0 (fun m => ef_new0 m a b) ?_
  intro p_ e_ s_ m_ below_ meth_ c_ hby hml hret hlk hnm
  refine go_aload_n (pc' := 1) (hb hby d2_0) rfl rfl rfl ?_
  refine go_aload_n (pc' := 2) (hb hby d2_1) rfl rfl rfl ?_
  refine go_iconst (pc' := 3) (v := 0) (hb hby d2_2) rfl rfl ?_
  refine go_aload_n (pc' := 4) (hb hby d2_3) rfl rfl rfl ?_
  refine go_arraylength (pc' := 5) p5 (hb hby d2_4) rfl ?_
  refine go_aconst_null (pc' := 6) (hb hby d2_5) rfl ?_
  refine callIW0 rfl (cells' := 4) (slots' := 8) (Wd := 0) (argsL := [(.ref b), (.int (0 : Int32)), (.int (0 : Int32)), .null]) (rest := []) (payW_of (a0 := a0) (c_new0in l G a b h0 O0 p1 p2 p3 p4) (wk G 29 rfl) (wk G 21 rfl) (by decide) (by decide) (ew1 G)) rfl (wk G 26 rfl) (wk G 27 rfl) (wk G 29 rfl) (by decide) pd1 rfl rfl (by rw [hml]; rfl) (Nat.le_of_ble_eq_true rfl) rfl rfl (by decide) (by decide) (allS p2 all0) (hb hby d2_6) (k_n (pc' := 9) rfl ?_)
  rintro  h1 f3 K2
  have K4 : Keep h0 h1 [a] := ((Keep.refl h0 [a]).trans K2 (allS (Or.inl (by simp)) all0))
  refine go_return hret hlk (hb hby d2_9) (by decide) (by decide) ⟨rfl, f3⟩ K4
theorem ef_canenc (m : MethodId) (c : Int32)  : entryFrame m #[(.int c)] 1 = mkF m 0 #[.val (.int c)] [] := by first | (simp [entryFrame, mkF, argsToLocals, Value.category]; done) | rfl
def Q_canenc (Z : State) (c : Int32)  (h0 : Heap) (xv : Value) (h : Heap) : Prop := (.int (1 : Int32)) = xv ∧ h0 = h
set_option maxRecDepth 65536 in
set_option maxHeartbeats 40000000 in
theorem c_canenc (l : Launch) {Z : State} {a0 : Array Value} (G : GH Z a0) (c : Int32)  (h0 : Heap) (O0 : Old Z Z.heap.size h0) (p1 : C8 c) : Con false [] l Z (⟨"java/lang/StringLatin1", "canEncode", "(C)Z"⟩ : MethodName) jdk_43_method_3_code 1 (some .boolean) [] ({ frames := 0, cells := 0, slots := 0, locals := 0 } : Room) #[(.int c)] h0 [] (rvl (Q_canenc Z c h0)) := by
  refine con_of (a0 := a0) pn2 (fun q => rfl) EW.nil O0 (fun m => ef_canenc m c) ?_
  intro p_ e_ s_ m_ below_ meth_ c_ hby hml hret hlk hnm
  refine go_iload_n (pc' := 1) (hb hby d3_0) rfl rfl ?_
  refine go_sipush (pc' := 4) (v := 255) (hb hby d3_1) rfl rfl ?_
  refine go_icF (pc' := 7) (hb hby d3_4) rfl (XT.ii_gt_f p1.2) ?_
  refine go_iconst (pc' := 8) (v := 1) (hb hby d3_7) rfl rfl ?_
  refine go_goto (pc' := 12) (hb hby d3_8) (by decide) rfl ?_
  refine go_ireturn hret hlk rfl (by simp) (hb hby d3_12) (by decide) (by decide) ⟨_, rfl, ⟨rfl, rfl⟩⟩ (Keep.refl h0 [])
theorem ef_tobytes (m : MethodId) (c : Int32)  : entryFrame m #[(.int c)] 1 = mkF m 0 #[.val (.int c)] [] := by first | (simp [entryFrame, mkF, argsToLocals, Value.category]; done) | rfl
def Q_tobytes (Z : State) (c : Int32)  (h0 : Heap) (xv : Value) (h : Heap) : Prop := ∃ (r : Addr) (k : ClassId), (.ref r) = xv ∧ h0.size ≤ r ∧ Arv Z h r k .byte (1 : Int32) [(.int (c).toInt8.toInt32)] (.int 0)
set_option maxRecDepth 65536 in
set_option maxHeartbeats 40000000 in
theorem c_tobytes (l : Launch) {Z : State} {a0 : Array Value} (G : GH Z a0) (c : Int32)  (h0 : Heap) (O0 : Old Z Z.heap.size h0)  : Con false [] l Z (⟨"java/lang/StringLatin1", "toBytes", "(C)[B"⟩ : MethodName) jdk_43_method_46_code 1 (some (.array .byte)) [] ({ frames := 0, cells := 1, slots := 1, locals := 0 } : Room) #[(.int c)] h0 [] (rvl (Q_tobytes Z c h0)) := by
  refine con_of (a0 := a0) pn2 (fun q => rfl) EW.nil O0 (fun m => ef_tobytes m c) ?_
  intro p_ e_ s_ m_ below_ meth_ c_ hby hml hret hlk hnm
  refine go_iconst (pc' := 1) (v := 1) (hb hby d4_0) rfl rfl ?_
  refine go_newP (pc' := 3) (cells' := 1) (slots' := 1) (cap := 1) (vs := [(.int (0 : Int32))]) (ty := .byte) (dv := .int 0) (wk G 34 rfl) rfl rfl (hb hby d4_1) rfl (by decide) rfl (by decide) rfl rfl rfl (by decide) (by decide) (fun h1 a2 k6 g3 X4 A5 => ?_)
  refine go_dup (pc' := 4) (hb hby d4_3) rfl rfl ?_
  refine go_iconst (pc' := 5) (v := 0) (hb hby d4_4) rfl rfl ?_
  refine go_iload_n (pc' := 6) (hb hby d4_5) rfl rfl ?_
  refine go_i2b (pc' := 7) (z := (c).toInt8.toInt32) (hb hby d4_6) rfl rfl ?_
  refine go_stB (pc' := 8) (i := 0) (x' := (c).toInt8.toInt32) (vs' := [(.int (c).toInt8.toInt32)]) rfl A5 (Nat.le_trans O0.2.1 (Nat.le_of_eq g3)) (by decide) (by decide) rfl (Nat.le_of_ble_eq_true rfl) (i2b_i2b _) rfl (hb hby d4_7) rfl (fun h7 W8 A9 => ?_)
  have K10 : Keep h0 h1 [] := ((Keep.refl h0 []).ext X4)
  have K11 : Keep h0 h7 [] := (K10.wr W8 (Or.inr (Nat.le_of_eq g3)))
  refine go_areturn hret hlk rfl rfl (hb hby d4_8) (by decide) (by decide) ⟨_, rfl, ⟨a2, k6, rfl, (Nat.le_of_eq g3), A9⟩⟩ K11
theorem ef_strbb (m : MethodId) (a : Addr) (t : Addr)  : entryFrame m #[(.ref a), (.ref t), (.int (0 : Int32))] 3 = mkF m 0 #[.val (.ref a), .val (.ref t), .val (.int (0 : Int32))] [] := by first | (simp [entryFrame, mkF, argsToLocals, Value.category]; done) | rfl
def Q_strbb (Z : State) (a : Addr) (t : Addr)  (h0 : Heap) (h : Heap) : Prop := Fld Z h a "java/lang/String" "value" "[B" (.ref t) ∧ Fld Z h a "java/lang/String" "coder" "B" (.int (0 : Int32))
set_option maxRecDepth 65536 in
set_option maxHeartbeats 40000000 in
theorem c_strbb (l : Launch) {Z : State} {a0 : Array Value} (G : GH Z a0) (a : Addr) (t : Addr)  (h0 : Heap) (O0 : Old Z Z.heap.size h0) (p1 : Exa Z h0 a "java/lang/String") (p2 : Z.heap.size ≤ a) (p3 : Fld Z h0 a "java/lang/String" "value" "[B" .null) (p4 : Fld Z h0 a "java/lang/String" "coder" "B" (.int (0 : Int32))) : Con false [] l Z (⟨"java/lang/String", "<init>", "([BB)V"⟩ : MethodName) jdk_42_method_151_code 3 none [] ({ frames := 1, cells := 0, slots := 0, locals := 12 } : Room) #[(.ref a), (.ref t), (.int (0 : Int32))] h0 [a] (rno (Q_strbb Z a t h0)) := by
  refine con_of (a0 := a0) pn1 (fun q => rfl) EW.nil O0 (fun m => ef_strbb m a t) ?_
  intro p_ e_ s_ m_ below_ meth_ c_ hby hml hret hlk hnm
  refine go_aload_n (pc' := 1) (hb hby d5_0) rfl rfl rfl ?_
  refine go_initO (pc' := 4) (Wd := 0) (wk G 30 rfl) (wk G 31 rfl) (wk G 32 rfl) (by rw [hml]; rfl) (by decide) (by decide) (by decide) (hb hby d5_1) rfl ?_
  refine go_aload_n (pc' := 5) (hb hby d5_4) rfl rfl rfl ?_
  refine go_aload_n (pc' := 6) (hb hby d5_5) rfl rfl rfl ?_
  refine go_putF (pc' := 9) (wk G 39 rfl) Via.refl p3 p1 (Or.inr ⟨(wk G 35 rfl), rfl, hnm⟩) (wk G 20 rfl) (ty := (.array .byte)) (v' := (.ref t)) (by decide) rfl rfl p2 (Or.inr rfl) (hb hby d5_6) rfl (fun h1 W2 => ?_)
  have F3 := Fld.same W2 p3
  refine go_aload_n (pc' := 10) (hb hby d5_9) rfl rfl rfl ?_
  refine go_iload_n (pc' := 11) (hb hby d5_10) rfl rfl ?_
  have F4 := (p4.other W2 (Or.inr (slot_ne (t := .byte) (t' := (.array .byte)) (Or.inr (wk G 36 rfl)) (Or.inr (wk G 35 rfl)) (by decide) (by decide) (by decide))))
  have E5 := (p1.wr W2)
  refine go_putF (pc' := 14) (wk G 40 rfl) Via.refl F4 E5 (Or.inr ⟨(wk G 36 rfl), rfl, hnm⟩) (wk G 20 rfl) (ty := .byte) (v' := (.int (0 : Int32))) (by decide) rfl (by decide) p2 (Or.inr rfl) (hb hby d5_11) rfl (fun h6 W7 => ?_)
  have F8 := Fld.same W7 F4
  have K9 : Keep h0 h1 [a] := ((Keep.refl h0 [a]).wr W2 (Or.inl (by simp)))
  have K10 : Keep h0 h6 [a] := (K9.wr W7 (Or.inl (by simp)))
  have F11 := (F3.other W7 (Or.inr (slot_ne (t := (.array .byte)) (t' := .byte) (Or.inr (wk G 35 rfl)) (Or.inr (wk G 36 rfl)) (by decide) (by decide) (by decide))))
  refine go_return hret hlk (hb hby d5_14) (by decide) (by decide) ⟨rfl, ⟨F11, F8⟩⟩ K10
theorem ef_valueof (m : MethodId) (c : Int32)  : entryFrame m #[(.int c)] 1 = mkF m 0 #[.val (.int c)] [] := by first | (simp [entryFrame, mkF, argsToLocals, Value.category]; done) | rfl
def Q_valueof (Z : State) (c : Int32)  (h0 : Heap) (xv : Value) (h : Heap) : Prop := ∃ (r : Addr), (.ref r) = xv ∧ h0.size ≤ r ∧ Str Z h r [c]
set_option maxRecDepth 65536 in
set_option maxHeartbeats 40000000 in
theorem c_valueof (l : Launch) {Z : State} {a0 : Array Value} (G : GH Z a0) (c : Int32)  (h0 : Heap) (O0 : Old Z Z.heap.size h0) (p1 : C8 c) : Con false [] l Z (⟨"java/lang/String", "valueOf", "(C)Ljava/lang/String;"⟩ : MethodName) jdk_42_method_139_code 1 (some (.object "java/lang/String")) [] ({ frames := 2, cells := 2, slots := 5, locals := 27 } : Room) #[(.int c)] h0 [] (rvl (Q_valueof Z c h0)) := by
  refine con_of (a0 := a0) pn1 (fun q => rfl) EW.nil O0 (fun m => ef_valueof m c) ?_
  intro p_ e_ s_ m_ below_ meth_ c_ hby hml hret hlk hnm
  obtain ⟨z1, s2, q3⟩ := cs_of G
  refine go_getS (pc' := 3) (wk G 122 rfl) (s2.ext O0.2) (hb hby d6_0) rfl ?_
  refine go_ifF (pc' := 6) (hb hby d6_3) rfl (XT.i0_eq_f q3) ?_
  refine go_iload_n (pc' := 7) (hb hby d6_6) rfl rfl ?_
  refine callS0 (cells' := 0) (slots' := 0) (Wd := 0) (argsL := [(.int c)]) (rest := []) (pay_of (a0 := a0) (c_canenc l G c h0 O0 p1) (wk G 141 rfl) (wk G 140 rfl) (by decide) (by decide)) (wk G 138 rfl) (wk G 139 rfl) (wk G 140 rfl) (wk G 141 rfl) (by decide) pd2 rfl rfl (by rw [hml]; rfl) (Nat.le_of_ble_eq_true rfl) rfl rfl (by decide) (by decide) all0 (fun _ _ => sf0) (hb hby d6_7) (k_v (pc' := 10) rfl ?_)
  rintro _ h4 ⟨rfl, rfl⟩ K5
  refine go_ifF (pc' := 13) (hb hby d6_10) rfl (by decide) ?_
  refine go_newO (pc' := 16) (cells' := 1) (slots' := 4) (wk G 142 rfl) (wk G 20 rfl) (wk G 21 rfl) (hb hby d6_13) rfl rfl rfl (by decide) (by decide) (fun h6 a7 g8 X9 E10 D11 U12 => ?_)
  refine go_dup (pc' := 17) (hb hby d6_16) rfl rfl ?_
  refine go_iload_n (pc' := 18) (hb hby d6_17) rfl rfl ?_
  refine go_old (fun O13 => ?_)
  refine callS0 (cells' := 2) (slots' := 5) (Wd := 2) (argsL := [(.int c)]) (rest := [(.ref a7), (.ref a7)]) (pay_of (a0 := a0) (c_tobytes l G c h6 O13 ) (wk G 145 rfl) (wk G 140 rfl) (by decide) (by decide)) (wk G 143 rfl) (wk G 144 rfl) (wk G 140 rfl) (wk G 145 rfl) (by decide) pd3 rfl rfl (by rw [hml]; rfl) (Nat.le_of_ble_eq_true rfl) rfl rfl (by decide) (by decide) all0 (fun _ _ => sf0) (hb hby d6_18) (k_v (pc' := 21) rfl ?_)
  rintro _ h14 ⟨r16, r17, rfl, f18, f19⟩ K15
  refine go_iconst (pc' := 22) (v := 0) (hb hby d6_21) rfl rfl ?_
  have K20 : Keep h6 h14 [] := ((Keep.refl h6 []).trans K15 all0)
  have E21 := (E10.keep K20)
  have F22 := D11 (Or.inr (wk G 35 rfl)) (ty := (.array .byte)) (by decide)
  have F23 := (F22.keep K20 nin0)
  have F24 := D11 (Or.inr (wk G 36 rfl)) (ty := .byte) (by decide)
  have F25 := (F24.keep K20 nin0)
  refine go_old (fun O26 => ?_)
  refine callI0 (cells' := 2) (slots' := 5) (Wd := 1) (argsL := [(.ref r16), (.int (0 : Int32))]) (rest := [(.ref a7)]) (pay_of (a0 := a0) (c_strbb l G a7 r16 h14 O26 E21 (Nat.le_trans O0.2.1 (Nat.le_of_eq g8)) F23 F25) (wk G 148 rfl) (wk G 21 rfl) (by decide) (by decide)) rfl (wk G 146 rfl) (wk G 147 rfl) (wk G 148 rfl) (by decide) pd4 rfl rfl (by rw [hml]; rfl) (Nat.le_of_ble_eq_true rfl) rfl rfl (by decide) (by decide) (allS (Nat.le_trans O0.2.1 (Nat.le_of_eq g8)) all0) (fun _ hal => (sfS safe_nil sf0)) (hb hby d6_22) (k_n (pc' := 25) rfl ?_)
  rintro  h27 ⟨f29, f30⟩ K28
  have K31 : Keep h0 h6 [] := ((Keep.refl h0 []).ext X9)
  have K32 : Keep h0 h14 [] := (K31.trans K15 all0)
  have K33 : Keep h0 h27 [] := (K32.trans K28 (allS (Or.inr (Nat.le_of_eq g8)) all0))
  have E34 := (E21.keep K28)
  have A35 := (f19.keep K28 (ninS (Nat.ne_of_gt (Nat.lt_of_lt_of_le E10.lt f18)) nin0))
  have S36 : Str Z h27 a7 [c] := ⟨r16, r17, E34, f29, f30, A35, (c8c p1 c8n), Nat.le_of_ble_eq_true rfl⟩
  refine go_areturn hret hlk rfl rfl (hb hby d6_25) (by decide) (by decide) ⟨_, rfl, ⟨a7, rfl, (Nat.le_of_eq g8), S36⟩⟩ K33
theorem ef_eqsame (m : MethodId) (a : Addr)  : entryFrame m #[(.ref a), (.ref a)] 3 = mkF m 0 #[.val (.ref a), .val (.ref a), .unset] [] := by first | (simp [entryFrame, mkF, argsToLocals, Value.category]; done) | rfl
def Q_eqsame (Z : State) (a : Addr)  (h0 : Heap) (xv : Value) (h : Heap) : Prop := (.int (1 : Int32)) = xv ∧ h0 = h
set_option maxRecDepth 65536 in
set_option maxHeartbeats 40000000 in
theorem c_eqsame (l : Launch) {Z : State} {a0 : Array Value} (G : GH Z a0) (a : Addr)  (h0 : Heap) (O0 : Old Z Z.heap.size h0)  : Con false [] l Z (⟨"java/lang/String", "equals", "(Ljava/lang/Object;)Z"⟩ : MethodName) jdk_42_method_66_code 3 (some .boolean) [] ({ frames := 0, cells := 0, slots := 0, locals := 0 } : Room) #[(.ref a), (.ref a)] h0 [] (rvl (Q_eqsame Z a h0)) := by
  refine con_of (a0 := a0) pn1 (fun q => rfl) EW.nil O0 (fun m => ef_eqsame m a) ?_
  intro p_ e_ s_ m_ below_ meth_ c_ hby hml hret hlk hnm
  refine go_aload_n (pc' := 1) (hb hby d7_0) rfl rfl rfl ?_
  refine go_aload_n (pc' := 2) (hb hby d7_1) rfl rfl rfl ?_
  refine go_acF (pc' := 5) (hb hby d7_2) rfl rfl rfl (XT.aa_ne_f rfl) ?_
  refine go_iconst (pc' := 6) (v := 1) (hb hby d7_5) rfl rfl ?_
  refine go_ireturn hret hlk rfl (by simp) (hb hby d7_6) (by decide) (by decide) ⟨_, rfl, ⟨rfl, rfl⟩⟩ (Keep.refl h0 [])
theorem ef_reqnn (m : MethodId) (a : Addr) (b : Addr)  : entryFrame m #[(.ref a), (.ref b)] 2 = mkF m 0 #[.val (.ref a), .val (.ref b)] [] := by first | (simp [entryFrame, mkF, argsToLocals, Value.category]; done) | rfl
def Q_reqnn (Z : State) (a : Addr) (b : Addr)  (h0 : Heap) (xv : Value) (h : Heap) : Prop := (.ref a) = xv ∧ h0 = h
set_option maxRecDepth 65536 in
set_option maxHeartbeats 40000000 in
theorem c_reqnn (l : Launch) {Z : State} {a0 : Array Value} (G : GH Z a0) (a : Addr) (b : Addr)  (h0 : Heap) (O0 : Old Z Z.heap.size h0)  : Con false [] l Z (⟨"java/util/Objects", "requireNonNull", "(Ljava/lang/Object;Ljava/lang/String;)Ljava/lang/Object;"⟩ : MethodName) jdk_31_method_11_code 2 (some (.object "java/lang/Object")) [] ({ frames := 0, cells := 0, slots := 0, locals := 0 } : Room) #[(.ref a), (.ref b)] h0 [] (rvl (Q_reqnn Z a b h0)) := by
  refine con_of (a0 := a0) pn3 (fun q => rfl) EW.nil O0 (fun m => ef_reqnn m a b) ?_
  intro p_ e_ s_ m_ below_ meth_ c_ hby hml hret hlk hnm
  refine go_aload_n (pc' := 1) (hb hby d8_0) rfl rfl rfl ?_
  refine go_nnT (pc' := 13) (hb hby d8_1) (by decide) rfl ?_
  refine go_aload_n (pc' := 14) (hb hby d8_13) rfl rfl rfl ?_
  refine go_areturn hret hlk rfl rfl (hb hby d8_14) (by decide) (by decide) ⟨_, rfl, ⟨rfl, rfl⟩⟩ (Keep.refl h0 [])
theorem ef_prop (m : MethodId) (x : Int32)  : entryFrame m #[(.int x)] 2 = mkF m 0 #[.val (.int x), .unset] [] := by first | (simp [entryFrame, mkF, argsToLocals, Value.category]; done) | rfl
def Q_prop (Z : State) (x : Int32)  (h0 : Heap) (xv : Value) (h : Heap) : Prop := ∃ (r : Addr), (.ref r) = xv ∧ h0 = h
set_option maxRecDepth 65536 in
set_option maxHeartbeats 40000000 in
theorem c_prop (l : Launch) {Z : State} {a0 : Array Value} (G : GH Z a0) (x : Int32)  (h0 : Heap) (O0 : Old Z Z.heap.size h0)  : Con false [] l Z (⟨"com/example/commitwise/commitwise/TransactionDefinitionWithIsolationPinLaw", "prop", "(I)Lcom/example/commitwise/commitwise/Propagation;"⟩ : MethodName) method_2_code 2 (some (.object "com/example/commitwise/commitwise/Propagation")) [] ({ frames := 0, cells := 0, slots := 0, locals := 0 } : Room) #[(.int x)] h0 [] (rvl (Q_prop Z x h0)) := by
  refine con_of (a0 := a0) pn4 (fun q => rfl) EW.nil O0 (fun m => ef_prop m x) ?_
  intro p_ e_ s_ m_ below_ meth_ c_ hby hml hret hlk hnm
  refine go_iload_n (pc' := 1) (hb hby d9_0) rfl rfl ?_
  refine go_ldcI (pc' := 3) (v := (2147483647 : Int32)) (wk G 4 rfl) (hb hby d9_1) rfl ?_
  refine go_iand (pc' := 4) (z := (x &&& (2147483647 : Int32))) (hb hby d9_3) rfl rfl ?_
  refine go_bipush (pc' := 6) (v := 7) (hb hby d9_4) rfl rfl ?_
  refine go_irem (pc' := 7) (z := ((x &&& (2147483647 : Int32)) % (7 : Int32))) (hb hby d9_6) rfl (by decide) rfl ?_
  refine go_istore_n (pc' := 8) (ls' := #[.val (.int x), .val (.int ((x &&& (2147483647 : Int32)) % (7 : Int32)))]) (hb hby d9_7) rfl rfl ?_
  refine go_iload_n (pc' := 9) (hb hby d9_8) rfl rfl ?_
  by_cases c1 : ((x &&& (2147483647 : Int32)) % (7 : Int32)) = (0 : Int32)
  · refine go_ifF (pc' := 12) (hb hby d9_9) rfl (XT.i0_ne_f c1) ?_
    refine go_getS (pc' := 15) (wk G 5 rfl) ((se_REQUIRED G).1.ext O0.2) (hb hby d9_12) rfl ?_
    refine go_areturn hret hlk rfl rfl (hb hby d9_15) (by decide) (by decide) ⟨_, rfl, ⟨(s_REQUIRED Z), rfl, rfl⟩⟩ (Keep.refl h0 [])
  · refine go_ifT (pc' := 16) (hb hby d9_9) (by decide) rfl (XT.i0_ne_t c1) ?_
    refine go_iload_n (pc' := 17) (hb hby d9_16) rfl rfl ?_
    refine go_iconst (pc' := 18) (v := 1) (hb hby d9_17) rfl rfl ?_
    by_cases c2 : ((x &&& (2147483647 : Int32)) % (7 : Int32)) = (1 : Int32)
    · refine go_icF (pc' := 21) (hb hby d9_18) rfl (XT.ii_ne_f c2) ?_
      refine go_getS (pc' := 24) (wk G 116 rfl) ((se_SUPPORTS G).1.ext O0.2) (hb hby d9_21) rfl ?_
      refine go_areturn hret hlk rfl rfl (hb hby d9_24) (by decide) (by decide) ⟨_, rfl, ⟨(s_SUPPORTS Z), rfl, rfl⟩⟩ (Keep.refl h0 [])
    · refine go_icT (pc' := 25) (hb hby d9_18) (by decide) rfl (XT.ii_ne_t c2) ?_
      refine go_iload_n (pc' := 26) (hb hby d9_25) rfl rfl ?_
      refine go_iconst (pc' := 27) (v := 2) (hb hby d9_26) rfl rfl ?_
      by_cases c3 : ((x &&& (2147483647 : Int32)) % (7 : Int32)) = (2 : Int32)
      · refine go_icF (pc' := 30) (hb hby d9_27) rfl (XT.ii_ne_f c3) ?_
        refine go_getS (pc' := 33) (wk G 110 rfl) ((se_MANDATORY G).1.ext O0.2) (hb hby d9_30) rfl ?_
        refine go_areturn hret hlk rfl rfl (hb hby d9_33) (by decide) (by decide) ⟨_, rfl, ⟨(s_MANDATORY Z), rfl, rfl⟩⟩ (Keep.refl h0 [])
      · refine go_icT (pc' := 34) (hb hby d9_27) (by decide) rfl (XT.ii_ne_t c3) ?_
        refine go_iload_n (pc' := 35) (hb hby d9_34) rfl rfl ?_
        refine go_iconst (pc' := 36) (v := 3) (hb hby d9_35) rfl rfl ?_
        by_cases c4 : ((x &&& (2147483647 : Int32)) % (7 : Int32)) = (3 : Int32)
        · refine go_icF (pc' := 39) (hb hby d9_36) rfl (XT.ii_ne_f c4) ?_
          refine go_getS (pc' := 42) (wk G 118 rfl) ((se_REQUIRES_NEW G).1.ext O0.2) (hb hby d9_39) rfl ?_
          refine go_areturn hret hlk rfl rfl (hb hby d9_42) (by decide) (by decide) ⟨_, rfl, ⟨(s_REQUIRES_NEW Z), rfl, rfl⟩⟩ (Keep.refl h0 [])
        · refine go_icT (pc' := 43) (hb hby d9_36) (by decide) rfl (XT.ii_ne_t c4) ?_
          refine go_iload_n (pc' := 44) (hb hby d9_43) rfl rfl ?_
          refine go_iconst (pc' := 45) (v := 4) (hb hby d9_44) rfl rfl ?_
          by_cases c5 : ((x &&& (2147483647 : Int32)) % (7 : Int32)) = (4 : Int32)
          · refine go_icF (pc' := 48) (hb hby d9_45) rfl (XT.ii_ne_f c5) ?_
            refine go_getS (pc' := 51) (wk G 106 rfl) ((se_NOT_SUPPORTED G).1.ext O0.2) (hb hby d9_48) rfl ?_
            refine go_areturn hret hlk rfl rfl (hb hby d9_51) (by decide) (by decide) ⟨_, rfl, ⟨(s_NOT_SUPPORTED Z), rfl, rfl⟩⟩ (Keep.refl h0 [])
          · refine go_icT (pc' := 52) (hb hby d9_45) (by decide) rfl (XT.ii_ne_t c5) ?_
            refine go_iload_n (pc' := 53) (hb hby d9_52) rfl rfl ?_
            refine go_iconst (pc' := 54) (v := 5) (hb hby d9_53) rfl rfl ?_
            by_cases c6 : ((x &&& (2147483647 : Int32)) % (7 : Int32)) = (5 : Int32)
            · refine go_icF (pc' := 57) (hb hby d9_54) rfl (XT.ii_ne_f c6) ?_
              refine go_getS (pc' := 60) (wk G 133 rfl) ((se_NEVER G).1.ext O0.2) (hb hby d9_57) rfl ?_
              refine go_areturn hret hlk rfl rfl (hb hby d9_60) (by decide) (by decide) ⟨_, rfl, ⟨(s_NEVER Z), rfl, rfl⟩⟩ (Keep.refl h0 [])
            · refine go_icT (pc' := 61) (hb hby d9_54) (by decide) rfl (XT.ii_ne_t c6) ?_
              refine go_getS (pc' := 64) (wk G 120 rfl) ((se_NESTED G).1.ext O0.2) (hb hby d9_61) rfl ?_
              refine go_areturn hret hlk rfl rfl (hb hby d9_64) (by decide) (by decide) ⟨_, rfl, ⟨(s_NESTED Z), rfl, rfl⟩⟩ (Keep.refl h0 [])
theorem ef_iso (m : MethodId) (x : Int32)  : entryFrame m #[(.int x)] 2 = mkF m 0 #[.val (.int x), .unset] [] := by first | (simp [entryFrame, mkF, argsToLocals, Value.category]; done) | rfl
def Q_iso (Z : State) (x : Int32)  (h0 : Heap) (xv : Value) (h : Heap) : Prop := ∃ (r : Addr), (.ref r) = xv ∧ h0 = h
set_option maxRecDepth 65536 in
set_option maxHeartbeats 40000000 in
theorem c_iso (l : Launch) {Z : State} {a0 : Array Value} (G : GH Z a0) (x : Int32)  (h0 : Heap) (O0 : Old Z Z.heap.size h0)  : Con false [] l Z (⟨"com/example/commitwise/commitwise/TransactionDefinitionWithIsolationPinLaw", "iso", "(I)Lcom/example/commitwise/commitwise/Isolation;"⟩ : MethodName) method_3_code 2 (some (.object "com/example/commitwise/commitwise/Isolation")) [] ({ frames := 0, cells := 0, slots := 0, locals := 0 } : Room) #[(.int x)] h0 [] (rvl (Q_iso Z x h0)) := by
  refine con_of (a0 := a0) pn4 (fun q => rfl) EW.nil O0 (fun m => ef_iso m x) ?_
  intro p_ e_ s_ m_ below_ meth_ c_ hby hml hret hlk hnm
  refine go_iload_n (pc' := 1) (hb hby d10_0) rfl rfl ?_
  refine go_ldcI (pc' := 3) (v := (2147483647 : Int32)) (wk G 4 rfl) (hb hby d10_1) rfl ?_
  refine go_iand (pc' := 4) (z := (x &&& (2147483647 : Int32))) (hb hby d10_3) rfl rfl ?_
  refine go_iconst (pc' := 5) (v := 5) (hb hby d10_4) rfl rfl ?_
  refine go_irem (pc' := 6) (z := ((x &&& (2147483647 : Int32)) % (5 : Int32))) (hb hby d10_5) rfl (by decide) rfl ?_
  refine go_istore_n (pc' := 7) (ls' := #[.val (.int x), .val (.int ((x &&& (2147483647 : Int32)) % (5 : Int32)))]) (hb hby d10_6) rfl rfl ?_
  refine go_iload_n (pc' := 8) (hb hby d10_7) rfl rfl ?_
  by_cases c1 : ((x &&& (2147483647 : Int32)) % (5 : Int32)) = (0 : Int32)
  · refine go_ifF (pc' := 11) (hb hby d10_8) rfl (XT.i0_ne_f c1) ?_
    refine go_getS (pc' := 14) (wk G 108 rfl) ((se_DEFAULT G).1.ext O0.2) (hb hby d10_11) rfl ?_
    refine go_areturn hret hlk rfl rfl (hb hby d10_14) (by decide) (by decide) ⟨_, rfl, ⟨(s_DEFAULT Z), rfl, rfl⟩⟩ (Keep.refl h0 [])
  · refine go_ifT (pc' := 15) (hb hby d10_8) (by decide) rfl (XT.i0_ne_t c1) ?_
    refine go_iload_n (pc' := 16) (hb hby d10_15) rfl rfl ?_
    refine go_iconst (pc' := 17) (v := 1) (hb hby d10_16) rfl rfl ?_
    by_cases c2 : ((x &&& (2147483647 : Int32)) % (5 : Int32)) = (1 : Int32)
    · refine go_icF (pc' := 20) (hb hby d10_17) rfl (XT.ii_ne_f c2) ?_
      refine go_getS (pc' := 23) (wk G 114 rfl) ((se_READ_UNCOMMITTED G).1.ext O0.2) (hb hby d10_20) rfl ?_
      refine go_areturn hret hlk rfl rfl (hb hby d10_23) (by decide) (by decide) ⟨_, rfl, ⟨(s_READ_UNCOMMITTED Z), rfl, rfl⟩⟩ (Keep.refl h0 [])
    · refine go_icT (pc' := 24) (hb hby d10_17) (by decide) rfl (XT.ii_ne_t c2) ?_
      refine go_iload_n (pc' := 25) (hb hby d10_24) rfl rfl ?_
      refine go_iconst (pc' := 26) (v := 2) (hb hby d10_25) rfl rfl ?_
      by_cases c3 : ((x &&& (2147483647 : Int32)) % (5 : Int32)) = (2 : Int32)
      · refine go_icF (pc' := 29) (hb hby d10_26) rfl (XT.ii_ne_f c3) ?_
        refine go_getS (pc' := 32) (wk G 14 rfl) ((se_READ_COMMITTED G).1.ext O0.2) (hb hby d10_29) rfl ?_
        refine go_areturn hret hlk rfl rfl (hb hby d10_32) (by decide) (by decide) ⟨_, rfl, ⟨(s_READ_COMMITTED Z), rfl, rfl⟩⟩ (Keep.refl h0 [])
      · refine go_icT (pc' := 33) (hb hby d10_26) (by decide) rfl (XT.ii_ne_t c3) ?_
        refine go_iload_n (pc' := 34) (hb hby d10_33) rfl rfl ?_
        refine go_iconst (pc' := 35) (v := 3) (hb hby d10_34) rfl rfl ?_
        by_cases c4 : ((x &&& (2147483647 : Int32)) % (5 : Int32)) = (3 : Int32)
        · refine go_icF (pc' := 38) (hb hby d10_35) rfl (XT.ii_ne_f c4) ?_
          refine go_getS (pc' := 41) (wk G 11 rfl) ((se_REPEATABLE_READ G).1.ext O0.2) (hb hby d10_38) rfl ?_
          refine go_areturn hret hlk rfl rfl (hb hby d10_41) (by decide) (by decide) ⟨_, rfl, ⟨(s_REPEATABLE_READ Z), rfl, rfl⟩⟩ (Keep.refl h0 [])
        · refine go_icT (pc' := 42) (hb hby d10_35) (by decide) rfl (XT.ii_ne_t c4) ?_
          refine go_getS (pc' := 45) (wk G 112 rfl) ((se_SERIALIZABLE G).1.ext O0.2) (hb hby d10_42) rfl ?_
          refine go_areturn hret hlk rfl rfl (hb hby d10_45) (by decide) (by decide) ⟨_, rfl, ⟨(s_SERIALIZABLE Z), rfl, rfl⟩⟩ (Keep.refl h0 [])
theorem ef_record (m : MethodId) (a : Addr)  : entryFrame m #[(.ref a)] 1 = mkF m 0 #[.val (.ref a)] [] := by first | (simp [entryFrame, mkF, argsToLocals, Value.category]; done) | rfl
def Q_record (Z : State) (a : Addr)  (h0 : Heap) (h : Heap) : Prop := h0 = h
set_option maxRecDepth 65536 in
set_option maxHeartbeats 40000000 in
theorem c_record (l : Launch) {Z : State} {a0 : Array Value} (G : GH Z a0) (a : Addr)  (h0 : Heap) (O0 : Old Z Z.heap.size h0)  : Con false [] l Z (⟨"java/lang/Record", "<init>", "()V"⟩ : MethodName) jdk_30_method_1_code 1 none [] ({ frames := 1, cells := 0, slots := 0, locals := 12 } : Room) #[(.ref a)] h0 [] (rno (Q_record Z a h0)) := by
  refine con_of (a0 := a0) pn5 (fun q => rfl) EW.nil O0 (fun m => ef_record m a) ?_
  intro p_ e_ s_ m_ below_ meth_ c_ hby hml hret hlk hnm
  refine go_aload_n (pc' := 1) (hb hby d11_0) rfl rfl rfl ?_
  refine go_initO (pc' := 4) (Wd := 0) (wk G 52 rfl) (wk G 31 rfl) (wk G 32 rfl) (by rw [hml]; rfl) (by decide) (by decide) (by decide) (hb hby d11_1) rfl ?_
  refine go_return hret hlk (hb hby d11_4) (by decide) (by decide) ⟨rfl, rfl⟩ (Keep.refl h0 [])
set_option maxHeartbeats 4000000 in
theorem ef_tdinit (m : MethodId) (a : Addr) (pr : Addr) (is : Addr) (tm : Int32) (ro : Int32) (nm : Value) (hc_nm : nm.isRef = true) : entryFrame m #[(.ref a), (.ref pr), (.ref is), (.int tm), (.int ro), nm] 6 = mkF m 0 #[.val (.ref a), .val (.ref pr), .val (.ref is), .val (.int tm), .val (.int ro), .val nm] [] := by rcases XT.refc hc_nm with rfl | ⟨_, rfl⟩ <;> first | (simp [entryFrame, mkF, argsToLocals, Value.category]; done) | rfl
def Q_tdinit (Z : State) (a : Addr) (pr : Addr) (is : Addr) (tm : Int32) (ro : Int32) (nm : Value)  (h0 : Heap) (h : Heap) : Prop := Fld Z h a "com/example/commitwise/commitwise/TransactionDefinition" "propagation" "Lcom/example/commitwise/commitwise/Propagation;" (.ref pr) ∧ Fld Z h a "com/example/commitwise/commitwise/TransactionDefinition" "isolation" "Lcom/example/commitwise/commitwise/Isolation;" (.ref is) ∧ Fld Z h a "com/example/commitwise/commitwise/TransactionDefinition" "timeout" "I" (.int tm) ∧ Fld Z h a "com/example/commitwise/commitwise/TransactionDefinition" "readOnly" "Z" (.int ro) ∧ Fld Z h a "com/example/commitwise/commitwise/TransactionDefinition" "name" "Ljava/lang/String;" nm
set_option maxRecDepth 65536 in
set_option maxHeartbeats 40000000 in
theorem c_tdinit (l : Launch) {Z : State} {a0 : Array Value} (G : GH Z a0) (a : Addr) (pr : Addr) (is : Addr) (tm : Int32) (ro : Int32) (nm : Value)  (h0 : Heap) (O0 : Old Z Z.heap.size h0) (p1 : Exa Z h0 a "com/example/commitwise/commitwise/TransactionDefinition") (p2 : Z.heap.size ≤ a) (p3 : ¬ tm < (-1 : Int32)) (p4 : narrow .boolean (.int ro) = .int ro ∧ fits .boolean (.int ro) = true) (p5 : nm.isRef = true) (p6 : Fld Z h0 a "com/example/commitwise/commitwise/TransactionDefinition" "propagation" "Lcom/example/commitwise/commitwise/Propagation;" .null) (p7 : Fld Z h0 a "com/example/commitwise/commitwise/TransactionDefinition" "isolation" "Lcom/example/commitwise/commitwise/Isolation;" .null) (p8 : Fld Z h0 a "com/example/commitwise/commitwise/TransactionDefinition" "timeout" "I" (.int (0 : Int32))) (p9 : Fld Z h0 a "com/example/commitwise/commitwise/TransactionDefinition" "readOnly" "Z" (.int (0 : Int32))) (p10 : Fld Z h0 a "com/example/commitwise/commitwise/TransactionDefinition" "name" "Ljava/lang/String;" .null) : Con true EL1 l Z (⟨"com/example/commitwise/commitwise/TransactionDefinition", "<init>", "(Lcom/example/commitwise/commitwise/Propagation;Lcom/example/commitwise/commitwise/Isolation;IZLjava/lang/String;)V"⟩ : MethodName) prog_30_method_1_code 6 none [] ({ frames := 2, cells := 4, slots := 88, locals := 24 } : Room) #[(.ref a), (.ref pr), (.ref is), (.int tm), (.int ro), nm] h0 [a] (rno (Q_tdinit Z a pr is tm ro nm h0)) := by
  refine con_of (a0 := a0) pn6 (fun q => nomatch q) (ew1 G) O0 (fun m => ef_tdinit m a pr is tm ro nm p5) ?_
  intro p_ e_ s_ m_ below_ meth_ c_ hby hml hret hlk hnm
  refine go_aload_n (pc' := 1) (hb hby d12_0) rfl rfl rfl ?_
  refine callI0 (cells' := 0) (slots' := 0) (Wd := 0) (argsL := []) (rest := []) (pay_of (a0 := a0) (c_record l G a h0 O0 ) (wk G 51 rfl) (wk G 50 rfl) (by decide) (by decide)) rfl (wk G 47 rfl) (wk G 48 rfl) (wk G 51 rfl) (by decide) pd5 rfl rfl (by rw [hml]; rfl) (Nat.le_of_ble_eq_true rfl) rfl rfl (by decide) (by decide) all0 (fun _ _ => sf0) (hb hby d12_1) (k_n (pc' := 4) rfl ?_)
  rintro  h1 rfl K2
  refine go_aload_n (pc' := 5) (hb hby d12_4) rfl rfl rfl ?_
  refine go_ldcH (pc' := 7) (cells' := 2) (slots' := 48) (n := 44) (vs := (([(112 : Int32), (114 : Int32), (111 : Int32), (112 : Int32), (97 : Int32), (103 : Int32), (97 : Int32), (116 : Int32), (105 : Int32), (111 : Int32), (110 : Int32)] : List Int32).map fun c => c.toInt8.toInt32).map Value.int) (z := (11 : Int32)) rfl (by decide) (wk G 53 rfl) (wS G) (by decide +kernel) (by decide) (by decide) (by decide) (by decide) (hb hby d12_5) rfl rfl rfl (by decide) (by decide) (fun h3 a4 t6 k7 X5 E8 F9 F10 A11 => ?_)
  have S12 : Str Z h3 a4 [(112 : Int32), (114 : Int32), (111 : Int32), (112 : Int32), (97 : Int32), (103 : Int32), (97 : Int32), (116 : Int32), (105 : Int32), (111 : Int32), (110 : Int32)] := ⟨t6, k7, E8, F10, F9, A11, by decide, by decide⟩
  refine go_old (fun O13 => ?_)
  refine callS0 (cells' := 2) (slots' := 48) (Wd := 0) (argsL := [(.ref pr), (.ref a4)]) (rest := []) (pay_of (a0 := a0) (c_reqnn l G pr a4 h3 O13 ) (wk G 57 rfl) (wk G 56 rfl) (by decide) (by decide)) (wk G 54 rfl) (wk G 55 rfl) (wk G 56 rfl) (wk G 57 rfl) (by decide) pd6 rfl rfl (by rw [hml]; rfl) (Nat.le_of_ble_eq_true rfl) rfl rfl (by decide) (by decide) all0 (fun _ _ => sf0) (hb hby d12_7) (k_v (pc' := 10) rfl ?_)
  rintro _ h14 ⟨rfl, rfl⟩ K15
  refine go_pop (pc' := 11) (hb hby d12_10) rfl rfl ?_
  refine go_aload_n (pc' := 12) (hb hby d12_11) rfl rfl rfl ?_
  refine go_ldcH (pc' := 14) (cells' := 4) (slots' := 88) (n := 36) (vs := (([(105 : Int32), (115 : Int32), (111 : Int32), (108 : Int32), (97 : Int32), (116 : Int32), (105 : Int32), (111 : Int32), (110 : Int32)] : List Int32).map fun c => c.toInt8.toInt32).map Value.int) (z := (9 : Int32)) rfl (by decide) (wk G 58 rfl) (wS G) (by decide +kernel) (by decide) (by decide) (by decide) (by decide) (hb hby d12_12) rfl rfl rfl (by decide) (by decide) (fun h16 a17 t19 k20 X18 E21 F22 F23 A24 => ?_)
  have S25 : Str Z h16 a17 [(105 : Int32), (115 : Int32), (111 : Int32), (108 : Int32), (97 : Int32), (116 : Int32), (105 : Int32), (111 : Int32), (110 : Int32)] := ⟨t19, k20, E21, F23, F22, A24, by decide, by decide⟩
  refine go_old (fun O26 => ?_)
  refine callS0 (cells' := 4) (slots' := 88) (Wd := 0) (argsL := [(.ref is), (.ref a17)]) (rest := []) (pay_of (a0 := a0) (c_reqnn l G is a17 h16 O26 ) (wk G 57 rfl) (wk G 56 rfl) (by decide) (by decide)) (wk G 54 rfl) (wk G 55 rfl) (wk G 56 rfl) (wk G 57 rfl) (by decide) pd6 rfl rfl (by rw [hml]; rfl) (Nat.le_of_ble_eq_true rfl) rfl rfl (by decide) (by decide) all0 (fun _ _ => sf0) (hb hby d12_14) (k_v (pc' := 17) rfl ?_)
  rintro _ h27 ⟨rfl, rfl⟩ K28
  refine go_pop (pc' := 18) (hb hby d12_17) rfl rfl ?_
  refine go_iload_n (pc' := 19) (hb hby d12_18) rfl rfl ?_
  refine go_iconst (pc' := 20) (v := (-1)) (hb hby d12_19) rfl rfl ?_
  refine go_icT (pc' := 37) (hb hby d12_20) (by decide) rfl (XT.ii_ge_t p3) ?_
  refine go_aload_n (pc' := 38) (hb hby d12_37) rfl rfl rfl ?_
  refine go_aload_n (pc' := 39) (hb hby d12_38) rfl rfl rfl ?_
  have K29 : Keep h0 h3 [] := ((Keep.refl h0 []).ext X5)
  have K30 : Keep h0 h16 [] := (K29.ext X18)
  have F31 := (p6.keep K30 nin0)
  have E32 := (p1.keep K30)
  refine go_putF (pc' := 42) (wk G 59 rfl) Via.refl F31 E32 (Or.inr ⟨(wk G 60 rfl), rfl, hnm⟩) (wk G 42 rfl) (ty := (.object "com/example/commitwise/commitwise/Propagation")) (v' := (.ref pr)) (by decide) rfl rfl p2 (Or.inl (by decide)) (hb hby d12_39) rfl (fun h33 W34 => ?_)
  have F35 := Fld.same W34 F31
  refine go_aload_n (pc' := 43) (hb hby d12_42) rfl rfl rfl ?_
  refine go_aload_n (pc' := 44) (hb hby d12_43) rfl rfl rfl ?_
  have F36 := (((p7.ext X5).ext X18).other W34 (Or.inr (slot_ne (t := (.object "com/example/commitwise/commitwise/Isolation")) (t' := (.object "com/example/commitwise/commitwise/Propagation")) (Or.inr (wk G 62 rfl)) (Or.inr (wk G 60 rfl)) (by decide) (by decide) (by decide))))
  have E37 := (E32.wr W34)
  refine go_putF (pc' := 47) (wk G 61 rfl) Via.refl F36 E37 (Or.inr ⟨(wk G 62 rfl), rfl, hnm⟩) (wk G 42 rfl) (ty := (.object "com/example/commitwise/commitwise/Isolation")) (v' := (.ref is)) (by decide) rfl rfl p2 (Or.inl (by decide)) (hb hby d12_44) rfl (fun h38 W39 => ?_)
  have F40 := Fld.same W39 F36
  refine go_aload_n (pc' := 48) (hb hby d12_47) rfl rfl rfl ?_
  refine go_iload_n (pc' := 49) (hb hby d12_48) rfl rfl ?_
  have F41 := ((((p8.ext X5).ext X18).other W34 (Or.inr (slot_ne (t := .int) (t' := (.object "com/example/commitwise/commitwise/Propagation")) (Or.inr (wk G 64 rfl)) (Or.inr (wk G 60 rfl)) (by decide) (by decide) (by decide)))).other W39 (Or.inr (slot_ne (t := .int) (t' := (.object "com/example/commitwise/commitwise/Isolation")) (Or.inr (wk G 64 rfl)) (Or.inr (wk G 62 rfl)) (by decide) (by decide) (by decide))))
  have E42 := (E37.wr W39)
  refine go_putF (pc' := 52) (wk G 63 rfl) Via.refl F41 E42 (Or.inr ⟨(wk G 64 rfl), rfl, hnm⟩) (wk G 42 rfl) (ty := .int) (v' := (.int tm)) (by decide) rfl rfl p2 (Or.inl (by decide)) (hb hby d12_49) rfl (fun h43 W44 => ?_)
  have F45 := Fld.same W44 F41
  refine go_aload_n (pc' := 53) (hb hby d12_52) rfl rfl rfl ?_
  refine go_iload (pc' := 55) (hb hby d12_53) rfl rfl ?_
  have F46 := (((((p9.ext X5).ext X18).other W34 (Or.inr (slot_ne (t := .boolean) (t' := (.object "com/example/commitwise/commitwise/Propagation")) (Or.inr (wk G 66 rfl)) (Or.inr (wk G 60 rfl)) (by decide) (by decide) (by decide)))).other W39 (Or.inr (slot_ne (t := .boolean) (t' := (.object "com/example/commitwise/commitwise/Isolation")) (Or.inr (wk G 66 rfl)) (Or.inr (wk G 62 rfl)) (by decide) (by decide) (by decide)))).other W44 (Or.inr (slot_ne (t := .boolean) (t' := .int) (Or.inr (wk G 66 rfl)) (Or.inr (wk G 64 rfl)) (by decide) (by decide) (by decide))))
  have E47 := (E42.wr W44)
  refine go_putF (pc' := 58) (wk G 65 rfl) Via.refl F46 E47 (Or.inr ⟨(wk G 66 rfl), rfl, hnm⟩) (wk G 42 rfl) (ty := .boolean) (v' := (.int ro)) (by decide) p4.1 p4.2 p2 (Or.inl (by decide)) (hb hby d12_55) rfl (fun h48 W49 => ?_)
  have F50 := Fld.same W49 F46
  refine go_aload_n (pc' := 59) (hb hby d12_58) rfl rfl rfl ?_
  refine go_aload (pc' := 61) (hb hby d12_59) rfl rfl p5 ?_
  have F51 := ((((((p10.ext X5).ext X18).other W34 (Or.inr (slot_ne (t := (.object "java/lang/String")) (t' := (.object "com/example/commitwise/commitwise/Propagation")) (Or.inr (wk G 68 rfl)) (Or.inr (wk G 60 rfl)) (by decide) (by decide) (by decide)))).other W39 (Or.inr (slot_ne (t := (.object "java/lang/String")) (t' := (.object "com/example/commitwise/commitwise/Isolation")) (Or.inr (wk G 68 rfl)) (Or.inr (wk G 62 rfl)) (by decide) (by decide) (by decide)))).other W44 (Or.inr (slot_ne (t := (.object "java/lang/String")) (t' := .int) (Or.inr (wk G 68 rfl)) (Or.inr (wk G 64 rfl)) (by decide) (by decide) (by decide)))).other W49 (Or.inr (slot_ne (t := (.object "java/lang/String")) (t' := .boolean) (Or.inr (wk G 68 rfl)) (Or.inr (wk G 66 rfl)) (by decide) (by decide) (by decide))))
  have E52 := (E47.wr W49)
  refine go_putF (pc' := 64) (wk G 67 rfl) Via.refl F51 E52 (Or.inr ⟨(wk G 68 rfl), rfl, hnm⟩) (wk G 42 rfl) (ty := (.object "java/lang/String")) (v' := nm) (by decide) (nv_obj p5) (fv_obj p5) p2 (Or.inl (by decide)) (hb hby d12_61) rfl (fun h53 W54 => ?_)
  have F55 := Fld.same W54 F51
  have K56 : Keep h0 h3 [a] := ((Keep.refl h0 [a]).ext X5)
  have K57 : Keep h0 h16 [a] := (K56.ext X18)
  have K58 : Keep h0 h33 [a] := (K57.wr W34 (Or.inl (by simp)))
  have K59 : Keep h0 h38 [a] := (K58.wr W39 (Or.inl (by simp)))
  have K60 : Keep h0 h43 [a] := (K59.wr W44 (Or.inl (by simp)))
  have K61 : Keep h0 h48 [a] := (K60.wr W49 (Or.inl (by simp)))
  have K62 : Keep h0 h53 [a] := (K61.wr W54 (Or.inl (by simp)))
  have F63 := ((((F35.other W39 (Or.inr (slot_ne (t := (.object "com/example/commitwise/commitwise/Propagation")) (t' := (.object "com/example/commitwise/commitwise/Isolation")) (Or.inr (wk G 60 rfl)) (Or.inr (wk G 62 rfl)) (by decide) (by decide) (by decide)))).other W44 (Or.inr (slot_ne (t := (.object "com/example/commitwise/commitwise/Propagation")) (t' := .int) (Or.inr (wk G 60 rfl)) (Or.inr (wk G 64 rfl)) (by decide) (by decide) (by decide)))).other W49 (Or.inr (slot_ne (t := (.object "com/example/commitwise/commitwise/Propagation")) (t' := .boolean) (Or.inr (wk G 60 rfl)) (Or.inr (wk G 66 rfl)) (by decide) (by decide) (by decide)))).other W54 (Or.inr (slot_ne (t := (.object "com/example/commitwise/commitwise/Propagation")) (t' := (.object "java/lang/String")) (Or.inr (wk G 60 rfl)) (Or.inr (wk G 68 rfl)) (by decide) (by decide) (by decide))))
  have F64 := (((F40.other W44 (Or.inr (slot_ne (t := (.object "com/example/commitwise/commitwise/Isolation")) (t' := .int) (Or.inr (wk G 62 rfl)) (Or.inr (wk G 64 rfl)) (by decide) (by decide) (by decide)))).other W49 (Or.inr (slot_ne (t := (.object "com/example/commitwise/commitwise/Isolation")) (t' := .boolean) (Or.inr (wk G 62 rfl)) (Or.inr (wk G 66 rfl)) (by decide) (by decide) (by decide)))).other W54 (Or.inr (slot_ne (t := (.object "com/example/commitwise/commitwise/Isolation")) (t' := (.object "java/lang/String")) (Or.inr (wk G 62 rfl)) (Or.inr (wk G 68 rfl)) (by decide) (by decide) (by decide))))
  have F65 := ((F45.other W49 (Or.inr (slot_ne (t := .int) (t' := .boolean) (Or.inr (wk G 64 rfl)) (Or.inr (wk G 66 rfl)) (by decide) (by decide) (by decide)))).other W54 (Or.inr (slot_ne (t := .int) (t' := (.object "java/lang/String")) (Or.inr (wk G 64 rfl)) (Or.inr (wk G 68 rfl)) (by decide) (by decide) (by decide))))
  have F66 := (F50.other W54 (Or.inr (slot_ne (t := .boolean) (t' := (.object "java/lang/String")) (Or.inr (wk G 66 rfl)) (Or.inr (wk G 68 rfl)) (by decide) (by decide) (by decide))))
  refine go_return hret hlk (hb hby d12_64) (by decide) (by decide) ⟨rfl, ⟨F63, F64, F65, F66, F55⟩⟩ K62
theorem ef_name (m : MethodId) (a : Addr)  : entryFrame m #[(.ref a)] 1 = mkF m 0 #[.val (.ref a)] [] := by first | (simp [entryFrame, mkF, argsToLocals, Value.category]; done) | rfl
def Q_name (Z : State) (a : Addr) (u : Value) (h0 : Heap) (xv : Value) (h : Heap) : Prop := u = xv ∧ h0 = h
set_option maxRecDepth 65536 in
set_option maxHeartbeats 40000000 in
theorem c_name (l : Launch) {Z : State} {a0 : Array Value} (G : GH Z a0) (a : Addr) (u : Value) (h0 : Heap) (O0 : Old Z Z.heap.size h0) (p1 : Fld Z h0 a "com/example/commitwise/commitwise/TransactionDefinition" "name" "Ljava/lang/String;" u) (p2 : u.isRef = true) : Con false [] l Z (⟨"com/example/commitwise/commitwise/TransactionDefinition", "name", "()Ljava/lang/String;"⟩ : MethodName) prog_30_method_14_code 1 (some (.object "java/lang/String")) [] ({ frames := 0, cells := 0, slots := 0, locals := 0 } : Room) #[(.ref a)] h0 [] (rvl (Q_name Z a u h0)) := by
  refine con_of (a0 := a0) pn6 (fun q => rfl) EW.nil O0 (fun m => ef_name m a) ?_
  intro p_ e_ s_ m_ below_ meth_ c_ hby hml hret hlk hnm
  refine go_aload_n (pc' := 1) (hb hby d13_0) rfl rfl rfl ?_
  refine go_getF (pc' := 4) (wk G 67 rfl) Via.refl p1 (hb hby d13_1) rfl ?_
  refine go_areturn hret hlk rfl p2 (hb hby d13_4) (by decide) (by decide) ⟨_, rfl, ⟨rfl, rfl⟩⟩ (Keep.refl h0 [])
theorem ef_propagation (m : MethodId) (a : Addr)  : entryFrame m #[(.ref a)] 1 = mkF m 0 #[.val (.ref a)] [] := by first | (simp [entryFrame, mkF, argsToLocals, Value.category]; done) | rfl
def Q_propagation (Z : State) (a : Addr) (u : Addr) (h0 : Heap) (xv : Value) (h : Heap) : Prop := (.ref u) = xv ∧ h0 = h
set_option maxRecDepth 65536 in
set_option maxHeartbeats 40000000 in
theorem c_propagation (l : Launch) {Z : State} {a0 : Array Value} (G : GH Z a0) (a : Addr) (u : Addr) (h0 : Heap) (O0 : Old Z Z.heap.size h0) (p1 : Fld Z h0 a "com/example/commitwise/commitwise/TransactionDefinition" "propagation" "Lcom/example/commitwise/commitwise/Propagation;" (.ref u)) : Con false [] l Z (⟨"com/example/commitwise/commitwise/TransactionDefinition", "propagation", "()Lcom/example/commitwise/commitwise/Propagation;"⟩ : MethodName) prog_30_method_10_code 1 (some (.object "com/example/commitwise/commitwise/Propagation")) [] ({ frames := 0, cells := 0, slots := 0, locals := 0 } : Room) #[(.ref a)] h0 [] (rvl (Q_propagation Z a u h0)) := by
  refine con_of (a0 := a0) pn6 (fun q => rfl) EW.nil O0 (fun m => ef_propagation m a) ?_
  intro p_ e_ s_ m_ below_ meth_ c_ hby hml hret hlk hnm
  refine go_aload_n (pc' := 1) (hb hby d14_0) rfl rfl rfl ?_
  refine go_getF (pc' := 4) (wk G 59 rfl) Via.refl p1 (hb hby d14_1) rfl ?_
  refine go_areturn hret hlk rfl rfl (hb hby d14_4) (by decide) (by decide) ⟨_, rfl, ⟨rfl, rfl⟩⟩ (Keep.refl h0 [])
theorem ef_isolation (m : MethodId) (a : Addr)  : entryFrame m #[(.ref a)] 1 = mkF m 0 #[.val (.ref a)] [] := by first | (simp [entryFrame, mkF, argsToLocals, Value.category]; done) | rfl
def Q_isolation (Z : State) (a : Addr) (u : Addr) (h0 : Heap) (xv : Value) (h : Heap) : Prop := (.ref u) = xv ∧ h0 = h
set_option maxRecDepth 65536 in
set_option maxHeartbeats 40000000 in
theorem c_isolation (l : Launch) {Z : State} {a0 : Array Value} (G : GH Z a0) (a : Addr) (u : Addr) (h0 : Heap) (O0 : Old Z Z.heap.size h0) (p1 : Fld Z h0 a "com/example/commitwise/commitwise/TransactionDefinition" "isolation" "Lcom/example/commitwise/commitwise/Isolation;" (.ref u)) : Con false [] l Z (⟨"com/example/commitwise/commitwise/TransactionDefinition", "isolation", "()Lcom/example/commitwise/commitwise/Isolation;"⟩ : MethodName) prog_30_method_11_code 1 (some (.object "com/example/commitwise/commitwise/Isolation")) [] ({ frames := 0, cells := 0, slots := 0, locals := 0 } : Room) #[(.ref a)] h0 [] (rvl (Q_isolation Z a u h0)) := by
  refine con_of (a0 := a0) pn6 (fun q => rfl) EW.nil O0 (fun m => ef_isolation m a) ?_
  intro p_ e_ s_ m_ below_ meth_ c_ hby hml hret hlk hnm
  refine go_aload_n (pc' := 1) (hb hby d15_0) rfl rfl rfl ?_
  refine go_getF (pc' := 4) (wk G 61 rfl) Via.refl p1 (hb hby d15_1) rfl ?_
  refine go_areturn hret hlk rfl rfl (hb hby d15_4) (by decide) (by decide) ⟨_, rfl, ⟨rfl, rfl⟩⟩ (Keep.refl h0 [])
theorem ef_timeout (m : MethodId) (a : Addr)  : entryFrame m #[(.ref a)] 1 = mkF m 0 #[.val (.ref a)] [] := by first | (simp [entryFrame, mkF, argsToLocals, Value.category]; done) | rfl
def Q_timeout (Z : State) (a : Addr) (u : Int32) (h0 : Heap) (xv : Value) (h : Heap) : Prop := (.int u) = xv ∧ h0 = h
set_option maxRecDepth 65536 in
set_option maxHeartbeats 40000000 in
theorem c_timeout (l : Launch) {Z : State} {a0 : Array Value} (G : GH Z a0) (a : Addr) (u : Int32) (h0 : Heap) (O0 : Old Z Z.heap.size h0) (p1 : Fld Z h0 a "com/example/commitwise/commitwise/TransactionDefinition" "timeout" "I" (.int u)) : Con false [] l Z (⟨"com/example/commitwise/commitwise/TransactionDefinition", "timeout", "()I"⟩ : MethodName) prog_30_method_12_code 1 (some .int) [] ({ frames := 0, cells := 0, slots := 0, locals := 0 } : Room) #[(.ref a)] h0 [] (rvl (Q_timeout Z a u h0)) := by
  refine con_of (a0 := a0) pn6 (fun q => rfl) EW.nil O0 (fun m => ef_timeout m a) ?_
  intro p_ e_ s_ m_ below_ meth_ c_ hby hml hret hlk hnm
  refine go_aload_n (pc' := 1) (hb hby d16_0) rfl rfl rfl ?_
  refine go_getF (pc' := 4) (wk G 63 rfl) Via.refl p1 (hb hby d16_1) rfl ?_
  refine go_ireturn hret hlk rfl (by simp) (hb hby d16_4) (by decide) (by decide) ⟨_, rfl, ⟨rfl, rfl⟩⟩ (Keep.refl h0 [])
theorem ef_readonly (m : MethodId) (a : Addr)  : entryFrame m #[(.ref a)] 1 = mkF m 0 #[.val (.ref a)] [] := by first | (simp [entryFrame, mkF, argsToLocals, Value.category]; done) | rfl
def Q_readonly (Z : State) (a : Addr) (u : Int32) (h0 : Heap) (xv : Value) (h : Heap) : Prop := (.int u) = xv ∧ h0 = h
set_option maxRecDepth 65536 in
set_option maxHeartbeats 40000000 in
theorem c_readonly (l : Launch) {Z : State} {a0 : Array Value} (G : GH Z a0) (a : Addr) (u : Int32) (h0 : Heap) (O0 : Old Z Z.heap.size h0) (p1 : Fld Z h0 a "com/example/commitwise/commitwise/TransactionDefinition" "readOnly" "Z" (.int u)) (p2 : narrow .boolean (.int u) = .int u ∧ fits .boolean (.int u) = true) : Con false [] l Z (⟨"com/example/commitwise/commitwise/TransactionDefinition", "readOnly", "()Z"⟩ : MethodName) prog_30_method_13_code 1 (some .boolean) [] ({ frames := 0, cells := 0, slots := 0, locals := 0 } : Room) #[(.ref a)] h0 [] (rvl (Q_readonly Z a u h0)) := by
  refine con_of (a0 := a0) pn6 (fun q => rfl) EW.nil O0 (fun m => ef_readonly m a) ?_
  intro p_ e_ s_ m_ below_ meth_ c_ hby hml hret hlk hnm
  refine go_aload_n (pc' := 1) (hb hby d17_0) rfl rfl rfl ?_
  refine go_getF (pc' := 4) (wk G 65 rfl) Via.refl p1 (hb hby d17_1) rfl ?_
  refine go_ireturn hret hlk p2.1 (by simp) (hb hby d17_4) (by decide) (by decide) ⟨_, rfl, ⟨rfl, rfl⟩⟩ (Keep.refl h0 [])
theorem ef_withiso (m : MethodId) (a : Addr) (y : Addr)  : entryFrame m #[(.ref a), (.ref y)] 2 = mkF m 0 #[.val (.ref a), .val (.ref y)] [] := by first | (simp [entryFrame, mkF, argsToLocals, Value.category]; done) | rfl
def Q_withiso (Z : State) (a : Addr) (y : Addr) (pr : Addr) (is : Addr) (tm : Int32) (ro : Int32) (nm : Value) (h0 : Heap) (xv : Value) (h : Heap) : Prop := ∃ (r : Addr), (.ref r) = xv ∧ h0.size ≤ r ∧ Exa Z h r "com/example/commitwise/commitwise/TransactionDefinition" ∧ Fld Z h r "com/example/commitwise/commitwise/TransactionDefinition" "propagation" "Lcom/example/commitwise/commitwise/Propagation;" (.ref pr) ∧ Fld Z h r "com/example/commitwise/commitwise/TransactionDefinition" "isolation" "Lcom/example/commitwise/commitwise/Isolation;" (.ref y) ∧ Fld Z h r "com/example/commitwise/commitwise/TransactionDefinition" "timeout" "I" (.int tm) ∧ Fld Z h r "com/example/commitwise/commitwise/TransactionDefinition" "readOnly" "Z" (.int ro) ∧ Fld Z h r "com/example/commitwise/commitwise/TransactionDefinition" "name" "Ljava/lang/String;" nm
set_option maxRecDepth 65536 in
set_option maxHeartbeats 40000000 in
theorem c_withiso (l : Launch) {Z : State} {a0 : Array Value} (G : GH Z a0) (a : Addr) (y : Addr) (pr : Addr) (is : Addr) (tm : Int32) (ro : Int32) (nm : Value) (h0 : Heap) (O0 : Old Z Z.heap.size h0) (p1 : Fld Z h0 a "com/example/commitwise/commitwise/TransactionDefinition" "propagation" "Lcom/example/commitwise/commitwise/Propagation;" (.ref pr)) (p2 : Fld Z h0 a "com/example/commitwise/commitwise/TransactionDefinition" "isolation" "Lcom/example/commitwise/commitwise/Isolation;" (.ref is)) (p3 : Fld Z h0 a "com/example/commitwise/commitwise/TransactionDefinition" "timeout" "I" (.int tm)) (p4 : Fld Z h0 a "com/example/commitwise/commitwise/TransactionDefinition" "readOnly" "Z" (.int ro)) (p5 : Fld Z h0 a "com/example/commitwise/commitwise/TransactionDefinition" "name" "Ljava/lang/String;" nm) (p6 : ¬ tm < (-1 : Int32)) (p7 : narrow .boolean (.int ro) = .int ro ∧ fits .boolean (.int ro) = true) (p8 : nm.isRef = true) : Con true EL1 l Z (⟨"com/example/commitwise/commitwise/TransactionDefinition", "withIsolation", "(Lcom/example/commitwise/commitwise/Isolation;)Lcom/example/commitwise/commitwise/TransactionDefinition;"⟩ : MethodName) prog_30_method_3_code 2 (some (.object "com/example/commitwise/commitwise/TransactionDefinition")) [] ({ frames := 3, cells := 5, slots := 93, locals := 42 } : Room) #[(.ref a), (.ref y)] h0 [] (rvl (Q_withiso Z a y pr is tm ro nm h0)) := by
  refine con_of (a0 := a0) pn6 (fun q => nomatch q) (ew1 G) O0 (fun m => ef_withiso m a y) ?_
  intro p_ e_ s_ m_ below_ meth_ c_ hby hml hret hlk hnm
  refine go_newO (pc' := 3) (cells' := 1) (slots' := 5) (wk G 74 rfl) (wk G 42 rfl) (wk G 43 rfl) (hb hby d18_0) rfl rfl rfl (by decide) (by decide) (fun h1 a2 g3 X4 E5 D6 U7 => ?_)
  refine go_dup (pc' := 4) (hb hby d18_3) rfl rfl ?_
  refine go_aload_n (pc' := 5) (hb hby d18_4) rfl rfl rfl ?_
  have K8 : Keep h0 h1 [] := ((Keep.refl h0 []).ext X4)
  have F9 := (p1.keep K8 nin0)
  refine go_getF (pc' := 8) (wk G 59 rfl) Via.refl F9 (hb hby d18_5) rfl ?_
  refine go_aload_n (pc' := 9) (hb hby d18_8) rfl rfl rfl ?_
  refine go_aload_n (pc' := 10) (hb hby d18_9) rfl rfl rfl ?_
  have F10 := (p3.keep K8 nin0)
  refine go_getF (pc' := 13) (wk G 63 rfl) Via.refl F10 (hb hby d18_10) rfl ?_
  refine go_aload_n (pc' := 14) (hb hby d18_13) rfl rfl rfl ?_
  have F11 := (p4.keep K8 nin0)
  refine go_getF (pc' := 17) (wk G 65 rfl) Via.refl F11 (hb hby d18_14) rfl ?_
  refine go_aload_n (pc' := 18) (hb hby d18_17) rfl rfl rfl ?_
  have F12 := (p5.keep K8 nin0)
  refine go_getF (pc' := 21) (wk G 67 rfl) Via.refl F12 (hb hby d18_18) rfl ?_
  have F13 := D6 (Or.inr (wk G 60 rfl)) (ty := (.object "com/example/commitwise/commitwise/Propagation")) (by decide)
  have F14 := D6 (Or.inr (wk G 62 rfl)) (ty := (.object "com/example/commitwise/commitwise/Isolation")) (by decide)
  have F15 := D6 (Or.inr (wk G 64 rfl)) (ty := .int) (by decide)
  have F16 := D6 (Or.inr (wk G 66 rfl)) (ty := .boolean) (by decide)
  have F17 := D6 (Or.inr (wk G 68 rfl)) (ty := (.object "java/lang/String")) (by decide)
  refine go_old (fun O18 => ?_)
  refine callIW0 rfl (cells' := 5) (slots' := 93) (Wd := 1) (argsL := [(.ref pr), (.ref y), (.int tm), (.int ro), nm]) (rest := [(.ref a2)]) (payW_of (a0 := a0) (c_tdinit l G a2 pr y tm ro nm h1 O18 E5 (Nat.le_trans O0.2.1 (Nat.le_of_eq g3)) p6 (⟨p7.1, p7.2⟩) p8 F13 F14 F15 F16 F17) (wk G 46 rfl) (wk G 43 rfl) (by decide) (by decide) (ew1 G)) rfl (wk G 75 rfl) (wk G 45 rfl) (wk G 46 rfl) (by decide) pd7 rfl rfl (by rw [hml]; rfl) (Nat.le_of_ble_eq_true rfl) rfl rfl (by decide) (by decide) (allS (Nat.le_trans O0.2.1 (Nat.le_of_eq g3)) all0) (hb hby d18_21) (k_n (pc' := 24) rfl ?_)
  rintro  h19 ⟨f21, f22, f23, f24, f25⟩ K20
  have K26 : Keep h0 h19 [] := (K8.trans K20 (allS (Or.inr (Nat.le_of_eq g3)) all0))
  have E27 := (E5.keep K20)
  refine go_areturn hret hlk rfl rfl (hb hby d18_24) (by decide) (by decide) ⟨_, rfl, ⟨a2, rfl, (Nat.le_of_eq g3), E27, f21, f22, f23, f24, f25⟩⟩ K26
theorem ef_mkname (m : MethodId) (k : Int32) (x : Int32)  : entryFrame m #[(.int k), (.int x)] 7 = mkF m 0 #[.val (.int k), .val (.int x), .unset, .unset, .unset, .unset, .unset] [] := by first | (simp [entryFrame, mkF, argsToLocals, Value.category]; done) | rfl
def Q_mkname (Z : State) (k : Int32) (x : Int32)  (h0 : Heap) (xv : Value) (h : Heap) : Prop := (.null = xv) ∨ (∃ (r : Addr), (.ref r) = xv ∧ Exa Z h r "java/lang/String")
set_option maxRecDepth 65536 in
set_option maxHeartbeats 40000000 in
theorem c_mkname (l : Launch) {Z : State} {a0 : Array Value} (G : GH Z a0) (k : Int32) (x : Int32)  (h0 : Heap) (O0 : Old Z Z.heap.size h0)  : Con true EL1 l Z (⟨"com/example/commitwise/commitwise/TransactionDefinitionWithIsolationPinLaw", "name", "(II)Ljava/lang/String;"⟩ : MethodName) method_4_code 7 (some (.object "java/lang/String")) [] ({ frames := 4, cells := 6, slots := 12, locals := 66 } : Room) #[(.int k), (.int x)] h0 [] (rvl (Q_mkname Z k x h0)) := by
  refine con_of (a0 := a0) pn4 (fun q => nomatch q) (ew1 G) O0 (fun m => ef_mkname m k x) ?_
  intro p_ e_ s_ m_ below_ meth_ c_ hby hml hret hlk hnm
  refine go_iload_n (pc' := 1) (hb hby d19_0) rfl rfl ?_
  refine go_iconst (pc' := 2) (v := 2) (hb hby d19_1) rfl rfl ?_
  refine go_iand (pc' := 3) (z := (k &&& (2 : Int32))) (hb hby d19_2) rfl rfl ?_
  by_cases c1 : (k &&& (2 : Int32)) = (0 : Int32)
  · refine go_ifT (pc' := 8) (hb hby d19_3) (by decide) rfl (XT.i0_eq_t c1) ?_
    refine go_iload_n (pc' := 9) (hb hby d19_8) rfl rfl ?_
    refine go_bipush (pc' := 11) (v := 16) (hb hby d19_9) rfl rfl ?_
    refine go_iushr (pc' := 12) (z := (XT.ushr x (16 : Int32))) (hb hby d19_11) rfl rfl ?_
    refine go_iconst (pc' := 13) (v := 3) (hb hby d19_12) rfl rfl ?_
    refine go_iand (pc' := 14) (z := ((XT.ushr x (16 : Int32)) &&& (3 : Int32))) (hb hby d19_13) rfl rfl ?_
    refine go_istore_n (pc' := 15) (ls' := #[.val (.int k), .val (.int x), .val (.int ((XT.ushr x (16 : Int32)) &&& (3 : Int32))), .unset, .unset, .unset, .unset]) (hb hby d19_14) rfl rfl ?_
    refine go_iload_n (pc' := 16) (hb hby d19_15) rfl rfl ?_
    refine go_sipush (pc' := 19) (v := 255) (hb hby d19_16) rfl rfl ?_
    refine go_iand (pc' := 20) (z := (x &&& (255 : Int32))) (hb hby d19_19) rfl rfl ?_
    refine go_i2c (pc' := 21) (z := (x &&& (255 : Int32))) (hb hby d19_20) rfl (i2c_mask _) ?_
    refine go_istore_n (pc' := 22) (ls' := #[.val (.int k), .val (.int x), .val (.int ((XT.ushr x (16 : Int32)) &&& (3 : Int32))), .val (.int (x &&& (255 : Int32))), .unset, .unset, .unset]) (hb hby d19_21) rfl rfl ?_
    refine go_iload_n (pc' := 23) (hb hby d19_22) rfl rfl ?_
    refine go_bipush (pc' := 25) (v := 8) (hb hby d19_23) rfl rfl ?_
    refine go_iushr (pc' := 26) (z := (XT.ushr x (8 : Int32))) (hb hby d19_25) rfl rfl ?_
    refine go_sipush (pc' := 29) (v := 255) (hb hby d19_26) rfl rfl ?_
    refine go_iand (pc' := 30) (z := ((XT.ushr x (8 : Int32)) &&& (255 : Int32))) (hb hby d19_29) rfl rfl ?_
    refine go_i2c (pc' := 31) (z := ((XT.ushr x (8 : Int32)) &&& (255 : Int32))) (hb hby d19_30) rfl (i2c_mask _) ?_
    refine go_istore (pc' := 33) (ls' := #[.val (.int k), .val (.int x), .val (.int ((XT.ushr x (16 : Int32)) &&& (3 : Int32))), .val (.int (x &&& (255 : Int32))), .val (.int ((XT.ushr x (8 : Int32)) &&& (255 : Int32))), .unset, .unset]) (hb hby d19_31) rfl rfl ?_
    refine go_iload_n (pc' := 34) (hb hby d19_33) rfl rfl ?_
    refine go_bipush (pc' := 36) (v := 24) (hb hby d19_34) rfl rfl ?_
    refine go_iushr (pc' := 37) (z := (XT.ushr x (24 : Int32))) (hb hby d19_36) rfl rfl ?_
    refine go_sipush (pc' := 40) (v := 255) (hb hby d19_37) rfl rfl ?_
    refine go_iand (pc' := 41) (z := ((XT.ushr x (24 : Int32)) &&& (255 : Int32))) (hb hby d19_40) rfl rfl ?_
    refine go_i2c (pc' := 42) (z := ((XT.ushr x (24 : Int32)) &&& (255 : Int32))) (hb hby d19_41) rfl (i2c_mask _) ?_
    refine go_istore (pc' := 44) (ls' := #[.val (.int k), .val (.int x), .val (.int ((XT.ushr x (16 : Int32)) &&& (3 : Int32))), .val (.int (x &&& (255 : Int32))), .val (.int ((XT.ushr x (8 : Int32)) &&& (255 : Int32))), .val (.int ((XT.ushr x (24 : Int32)) &&& (255 : Int32))), .unset]) (hb hby d19_42) rfl rfl ?_
    refine go_iload_n (pc' := 45) (hb hby d19_44) rfl rfl ?_
    by_cases c2 : ((XT.ushr x (16 : Int32)) &&& (3 : Int32)) = (0 : Int32)
    · refine go_ifF (pc' := 48) (hb hby d19_45) rfl (XT.i0_ne_f c2) ?_
      refine go_newO (pc' := 51) (cells' := 1) (slots' := 4) (wk G 19 rfl) (wk G 20 rfl) (wk G 21 rfl) (hb hby d19_48) rfl rfl rfl (by decide) (by decide) (fun h3 a4 g5 X6 E7 D8 U9 => ?_)
      refine go_dup (pc' := 52) (hb hby d19_51) rfl rfl ?_
      refine go_iconst (pc' := 53) (v := 0) (hb hby d19_52) rfl rfl ?_
      refine go_newP (pc' := 55) (cells' := 2) (slots' := 4) (cap := 0) (vs := []) (ty := .char) (dv := .int 0) (wk G 22 rfl) rfl rfl (hb hby d19_53) rfl (by decide) rfl (by decide) rfl rfl rfl (by decide) (by decide) (fun h10 a11 k15 g12 X13 A14 => ?_)
      have K16 : Keep h3 h10 [] := ((Keep.refl h3 []).ext X13)
      have E17 := (E7.keep K16)
      have F18 := D8 (Or.inr (wk G 35 rfl)) (ty := (.array .byte)) (by decide)
      have F19 := (F18.keep K16 nin0)
      have F20 := D8 (Or.inr (wk G 36 rfl)) (ty := .byte) (by decide)
      have F21 := (F20.keep K16 nin0)
      refine go_old (fun O22 => ?_)
      refine callIW0 rfl (cells' := 6) (slots' := 12) (Wd := 1) (argsL := [(.ref a11)]) (rest := [(.ref a4)]) (payW_of (a0 := a0) (c_new0 l G a4 a11 k15 h10 O22 E17 (Nat.le_trans O0.2.1 (Nat.le_of_eq g5)) F19 F21 A14) (wk G 25 rfl) (wk G 21 rfl) (by decide) (by decide) (ew1 G)) rfl (wk G 23 rfl) (wk G 24 rfl) (wk G 25 rfl) (by decide) pd8 rfl rfl (by rw [hml]; rfl) (Nat.le_of_ble_eq_true rfl) rfl rfl (by decide) (by decide) (allS (Nat.le_trans O0.2.1 (Nat.le_of_eq g5)) all0) (hb hby d19_55) (k_n (pc' := 58) rfl ?_)
      rintro  h23 f25 K24
      have K26 : Keep h0 h3 [] := ((Keep.refl h0 []).ext X6)
      have K27 : Keep h0 h10 [] := (K26.ext X13)
      have K28 : Keep h0 h23 [] := (K27.trans K24 (allS (Or.inr (Nat.le_of_eq g5)) all0))
      refine go_areturn hret hlk rfl rfl (hb hby d19_58) (by decide) (by decide) ⟨_, rfl, (Or.inr (⟨a4, rfl, f25.exa⟩))⟩ K28
    · refine go_ifT (pc' := 59) (hb hby d19_45) (by decide) rfl (XT.i0_ne_t c2) ?_
      refine go_iload_n (pc' := 60) (hb hby d19_59) rfl rfl ?_
      refine go_iconst (pc' := 61) (v := 1) (hb hby d19_60) rfl rfl ?_
      by_cases c29 : ((XT.ushr x (16 : Int32)) &&& (3 : Int32)) = (1 : Int32)
      · refine go_icF (pc' := 64) (hb hby d19_61) rfl (XT.ii_ne_f c29) ?_
        refine go_iload_n (pc' := 65) (hb hby d19_64) rfl rfl ?_
        refine callS0 (cells' := 2) (slots' := 5) (Wd := 0) (argsL := [(.int (x &&& (255 : Int32)))]) (rest := []) (pay_of (a0 := a0) (c_valueof l G (x &&& (255 : Int32)) h0 O0 (c8_m _)) (wk G 137 rfl) (wk G 21 rfl) (by decide) (by decide)) (wk G 135 rfl) (wk G 136 rfl) (wk G 21 rfl) (wk G 137 rfl) (by decide) pd9 rfl rfl (by rw [hml]; rfl) (Nat.le_of_ble_eq_true rfl) rfl rfl (by decide) (by decide) all0 (fun _ _ => sf0) (hb hby d19_65) (k_v (pc' := 68) rfl ?_)
        rintro _ h30 ⟨r32, rfl, f33, f34⟩ K31
        have K35 : Keep h0 h30 [] := ((Keep.refl h0 []).trans K31 all0)
        refine go_areturn hret hlk rfl rfl (hb hby d19_68) (by decide) (by decide) ⟨_, rfl, (Or.inr (⟨r32, rfl, f34.exa⟩))⟩ K35
      · refine go_icT (pc' := 69) (hb hby d19_61) (by decide) rfl (XT.ii_ne_t c29) ?_
        refine go_iload_n (pc' := 70) (hb hby d19_69) rfl rfl ?_
        refine go_iconst (pc' := 71) (v := 2) (hb hby d19_70) rfl rfl ?_
        by_cases c36 : ((XT.ushr x (16 : Int32)) &&& (3 : Int32)) = (2 : Int32)
        · refine go_icF (pc' := 74) (hb hby d19_71) rfl (XT.ii_ne_f c36) ?_
          refine go_iconst (pc' := 75) (v := 2) (hb hby d19_74) rfl rfl ?_
          refine go_newP (pc' := 77) (cells' := 1) (slots' := 2) (cap := 2) (vs := [(.int (0 : Int32)), (.int (0 : Int32))]) (ty := .char) (dv := .int 0) (wk G 22 rfl) rfl rfl (hb hby d19_75) rfl (by decide) rfl (by decide) rfl rfl rfl (by decide) (by decide) (fun h37 a38 k42 g39 X40 A41 => ?_)
          refine go_astore (pc' := 79) (ls' := #[.val (.int k), .val (.int x), .val (.int ((XT.ushr x (16 : Int32)) &&& (3 : Int32))), .val (.int (x &&& (255 : Int32))), .val (.int ((XT.ushr x (8 : Int32)) &&& (255 : Int32))), .val (.int ((XT.ushr x (24 : Int32)) &&& (255 : Int32))), .val (.ref a38)]) (hb hby d19_77) rfl rfl rfl ?_
          refine go_aload (pc' := 81) (hb hby d19_79) rfl rfl rfl ?_
          refine go_iconst (pc' := 82) (v := 0) (hb hby d19_81) rfl rfl ?_
          refine go_iload_n (pc' := 83) (hb hby d19_82) rfl rfl ?_
          refine go_stC (pc' := 84) (i := 0) (x' := (x &&& (255 : Int32))) (vs' := [(.int (x &&& (255 : Int32))), (.int (0 : Int32))]) A41 (Nat.le_trans O0.2.1 (Nat.le_of_eq g39)) (by decide) (by decide) rfl (Nat.le_of_ble_eq_true rfl) (i2c_mask _) rfl (hb hby d19_83) rfl (fun h43 W44 A45 => ?_)
          refine go_aload (pc' := 86) (hb hby d19_84) rfl rfl rfl ?_
          refine go_iconst (pc' := 87) (v := 1) (hb hby d19_86) rfl rfl ?_
          refine go_iload (pc' := 89) (hb hby d19_87) rfl rfl ?_
          refine go_stC (pc' := 90) (i := 1) (x' := ((XT.ushr x (8 : Int32)) &&& (255 : Int32))) (vs' := [(.int (x &&& (255 : Int32))), (.int ((XT.ushr x (8 : Int32)) &&& (255 : Int32)))]) A45 (Nat.le_trans O0.2.1 (Nat.le_of_eq g39)) (by decide) (by decide) rfl (Nat.le_of_ble_eq_true rfl) (i2c_mask _) rfl (hb hby d19_89) rfl (fun h46 W47 A48 => ?_)
          refine go_newO (pc' := 93) (cells' := 2) (slots' := 6) (wk G 19 rfl) (wk G 20 rfl) (wk G 21 rfl) (hb hby d19_90) rfl rfl rfl (by decide) (by decide) (fun h49 a50 g51 X52 E53 D54 U55 => ?_)
          refine go_dup (pc' := 94) (hb hby d19_93) rfl rfl ?_
          refine go_aload (pc' := 96) (hb hby d19_94) rfl rfl rfl ?_
          have F56 := D54 (Or.inr (wk G 35 rfl)) (ty := (.array .byte)) (by decide)
          have F57 := D54 (Or.inr (wk G 36 rfl)) (ty := .byte) (by decide)
          have K58 : Keep h46 h49 [] := ((Keep.refl h46 []).ext X52)
          have A59 := (A48.keep K58 nin0)
          refine go_old (fun O60 => ?_)
          have K61 : Keep h0 h37 [] := ((Keep.refl h0 []).ext X40)
          have K62 : Keep h0 h43 [] := (K61.wr W44 (Or.inr (Nat.le_of_eq g39)))
          have K63 : Keep h0 h46 [] := (K62.wr W47 (Or.inr (Nat.le_of_eq g39)))
          refine callI0 (cells' := 3) (slots' := 8) (Wd := 1) (argsL := [(.ref a38)]) (rest := [(.ref a50)]) (pay_new G O60 (cs := [(x &&& (255 : Int32)), ((XT.ushr x (8 : Int32)) &&& (255 : Int32))]) (n := 2) (Nat.le_trans O0.2.1 (Nat.le_trans K63.1 (Nat.le_of_eq g51))) E53 F56 F57 A59 rfl rfl (by decide) (by decide) (c8c (c8_m _) (c8c (c8_m _) c8n)) (by decide) (by decide)) rfl (wk G 23 rfl) (wk G 24 rfl) (wk G 25 rfl) (by decide) pd8 rfl rfl (by rw [hml]; rfl) (Nat.le_of_ble_eq_true rfl) rfl rfl (by decide) (by decide) (allS (Nat.le_trans O0.2.1 (Nat.le_trans K63.1 (Nat.le_of_eq g51))) all0) (fun _ hal => (sfS (safe_null hal E53 F56) sf0)) (hb hby d19_96) (k_n (pc' := 99) rfl ?_)
          rintro h64 S66 K65
          have K67 : Keep h0 h49 [] := (K63.ext X52)
          have K68 : Keep h0 h64 [] := (K67.trans K65 (allS (Or.inr (Nat.le_trans K63.1 (Nat.le_of_eq g51))) all0))
          have E69 := (E53.keep K65)
          refine go_areturn hret hlk rfl rfl (hb hby d19_99) (by decide) (by decide) ⟨_, rfl, (Or.inr (⟨a50, rfl, E69⟩))⟩ K68
        · refine go_icT (pc' := 100) (hb hby d19_71) (by decide) rfl (XT.ii_ne_t c36) ?_
          refine go_iconst (pc' := 101) (v := 3) (hb hby d19_100) rfl rfl ?_
          refine go_newP (pc' := 103) (cells' := 1) (slots' := 3) (cap := 3) (vs := [(.int (0 : Int32)), (.int (0 : Int32)), (.int (0 : Int32))]) (ty := .char) (dv := .int 0) (wk G 22 rfl) rfl rfl (hb hby d19_101) rfl (by decide) rfl (by decide) rfl rfl rfl (by decide) (by decide) (fun h70 a71 k75 g72 X73 A74 => ?_)
          refine go_astore (pc' := 105) (ls' := #[.val (.int k), .val (.int x), .val (.int ((XT.ushr x (16 : Int32)) &&& (3 : Int32))), .val (.int (x &&& (255 : Int32))), .val (.int ((XT.ushr x (8 : Int32)) &&& (255 : Int32))), .val (.int ((XT.ushr x (24 : Int32)) &&& (255 : Int32))), .val (.ref a71)]) (hb hby d19_103) rfl rfl rfl ?_
          refine go_aload (pc' := 107) (hb hby d19_105) rfl rfl rfl ?_
          refine go_iconst (pc' := 108) (v := 0) (hb hby d19_107) rfl rfl ?_
          refine go_iload_n (pc' := 109) (hb hby d19_108) rfl rfl ?_
          refine go_stC (pc' := 110) (i := 0) (x' := (x &&& (255 : Int32))) (vs' := [(.int (x &&& (255 : Int32))), (.int (0 : Int32)), (.int (0 : Int32))]) A74 (Nat.le_trans O0.2.1 (Nat.le_of_eq g72)) (by decide) (by decide) rfl (Nat.le_of_ble_eq_true rfl) (i2c_mask _) rfl (hb hby d19_109) rfl (fun h76 W77 A78 => ?_)
          refine go_aload (pc' := 112) (hb hby d19_110) rfl rfl rfl ?_
          refine go_iconst (pc' := 113) (v := 1) (hb hby d19_112) rfl rfl ?_
          refine go_iload (pc' := 115) (hb hby d19_113) rfl rfl ?_
          refine go_stC (pc' := 116) (i := 1) (x' := ((XT.ushr x (8 : Int32)) &&& (255 : Int32))) (vs' := [(.int (x &&& (255 : Int32))), (.int ((XT.ushr x (8 : Int32)) &&& (255 : Int32))), (.int (0 : Int32))]) A78 (Nat.le_trans O0.2.1 (Nat.le_of_eq g72)) (by decide) (by decide) rfl (Nat.le_of_ble_eq_true rfl) (i2c_mask _) rfl (hb hby d19_115) rfl (fun h79 W80 A81 => ?_)
          refine go_aload (pc' := 118) (hb hby d19_116) rfl rfl rfl ?_
          refine go_iconst (pc' := 119) (v := 2) (hb hby d19_118) rfl rfl ?_
          refine go_iload (pc' := 121) (hb hby d19_119) rfl rfl ?_
          refine go_stC (pc' := 122) (i := 2) (x' := ((XT.ushr x (24 : Int32)) &&& (255 : Int32))) (vs' := [(.int (x &&& (255 : Int32))), (.int ((XT.ushr x (8 : Int32)) &&& (255 : Int32))), (.int ((XT.ushr x (24 : Int32)) &&& (255 : Int32)))]) A81 (Nat.le_trans O0.2.1 (Nat.le_of_eq g72)) (by decide) (by decide) rfl (Nat.le_of_ble_eq_true rfl) (i2c_mask _) rfl (hb hby d19_121) rfl (fun h82 W83 A84 => ?_)
          refine go_newO (pc' := 125) (cells' := 2) (slots' := 7) (wk G 19 rfl) (wk G 20 rfl) (wk G 21 rfl) (hb hby d19_122) rfl rfl rfl (by decide) (by decide) (fun h85 a86 g87 X88 E89 D90 U91 => ?_)
          refine go_dup (pc' := 126) (hb hby d19_125) rfl rfl ?_
          refine go_aload (pc' := 128) (hb hby d19_126) rfl rfl rfl ?_
          have F92 := D90 (Or.inr (wk G 35 rfl)) (ty := (.array .byte)) (by decide)
          have F93 := D90 (Or.inr (wk G 36 rfl)) (ty := .byte) (by decide)
          have K94 : Keep h82 h85 [] := ((Keep.refl h82 []).ext X88)
          have A95 := (A84.keep K94 nin0)
          refine go_old (fun O96 => ?_)
          have K97 : Keep h0 h70 [] := ((Keep.refl h0 []).ext X73)
          have K98 : Keep h0 h76 [] := (K97.wr W77 (Or.inr (Nat.le_of_eq g72)))
          have K99 : Keep h0 h79 [] := (K98.wr W80 (Or.inr (Nat.le_of_eq g72)))
          have K100 : Keep h0 h82 [] := (K99.wr W83 (Or.inr (Nat.le_of_eq g72)))
          refine callI0 (cells' := 3) (slots' := 10) (Wd := 1) (argsL := [(.ref a71)]) (rest := [(.ref a86)]) (pay_new G O96 (cs := [(x &&& (255 : Int32)), ((XT.ushr x (8 : Int32)) &&& (255 : Int32)), ((XT.ushr x (24 : Int32)) &&& (255 : Int32))]) (n := 3) (Nat.le_trans O0.2.1 (Nat.le_trans K100.1 (Nat.le_of_eq g87))) E89 F92 F93 A95 rfl rfl (by decide) (by decide) (c8c (c8_m _) (c8c (c8_m _) (c8c (c8_m _) c8n))) (by decide) (by decide)) rfl (wk G 23 rfl) (wk G 24 rfl) (wk G 25 rfl) (by decide) pd8 rfl rfl (by rw [hml]; rfl) (Nat.le_of_ble_eq_true rfl) rfl rfl (by decide) (by decide) (allS (Nat.le_trans O0.2.1 (Nat.le_trans K100.1 (Nat.le_of_eq g87))) all0) (fun _ hal => (sfS (safe_null hal E89 F92) sf0)) (hb hby d19_128) (k_n (pc' := 131) rfl ?_)
          rintro h101 S103 K102
          have K104 : Keep h0 h85 [] := (K100.ext X88)
          have K105 : Keep h0 h101 [] := (K104.trans K102 (allS (Or.inr (Nat.le_trans K100.1 (Nat.le_of_eq g87))) all0))
          have E106 := (E89.keep K102)
          refine go_areturn hret hlk rfl rfl (hb hby d19_131) (by decide) (by decide) ⟨_, rfl, (Or.inr (⟨a86, rfl, E106⟩))⟩ K105
  · refine go_ifF (pc' := 6) (hb hby d19_3) rfl (XT.i0_eq_f c1) ?_
    refine go_aconst_null (pc' := 7) (hb hby d19_6) rfl ?_
    refine go_areturn hret hlk rfl rfl (hb hby d19_7) (by decide) (by decide) ⟨_, rfl, (Or.inl rfl)⟩ (Keep.refl h0 [])
theorem ef_law (m : MethodId) (x0 : Int32) (x1 : Int32) (x2 : Int32) (x3 : Int32) (x4 : Int32) (x5 : Int32)  : entryFrame m #[(.int x0), (.int x1), (.int x2), (.int x3), (.int x4), (.int x5)] maxLocals = mkF m 0 #[.val (.int x0), .val (.int x1), .val (.int x2), .val (.int x3), .val (.int x4), .val (.int x5), .unset, .unset, .unset, .unset, .unset, .unset, .unset, .unset, .unset, .unset] [] := by first | (simp [entryFrame, mkF, argsToLocals, Value.category, maxLocals]; done) | rfl
def Q_law (Z : State) (x0 : Int32) (x1 : Int32) (x2 : Int32) (x3 : Int32) (x4 : Int32) (x5 : Int32)  (h0 : Heap) (xv : Value) (h : Heap) : Prop := (.int (1 : Int32)) = xv
set_option maxRecDepth 65536 in
set_option maxHeartbeats 40000000 in
theorem c_law (l : Launch) {Z : State} {a0 : Array Value} (G : GH Z a0) (x0 : Int32) (x1 : Int32) (x2 : Int32) (x3 : Int32) (x4 : Int32) (x5 : Int32)  (h0 : Heap) (O0 : Old Z Z.heap.size h0)  : Con true EL1 l Z x code maxLocals ret tables_1 room_1 #[(.int x0), (.int x1), (.int x2), (.int x3), (.int x4), (.int x5)] h0 [] (rvl (Q_law Z x0 x1 x2 x3 x4 x5 h0)) := by
  refine con_of (a0 := a0) pn4 (fun q => nomatch q) (ew1 G) O0 (fun m => ef_law m x0 x1 x2 x3 x4 x5) ?_
  intro p_ e_ s_ m_ below_ meth_ c_ hby hml hret hlk hnm
  refine go_iload_n (pc' := 1) (hb hby at_0) rfl rfl ?_
  refine callS0 (cells' := 0) (slots' := 0) (Wd := 0) (argsL := [(.int x0)]) (rest := []) (pay_of (a0 := a0) (c_prop l G x0 h0 O0 ) (wk G 3 rfl) (wk G 2 rfl) (by decide) (by decide)) (wk G 0 rfl) (wk G 1 rfl) (wk G 2 rfl) (wk G 3 rfl) (by decide) pd10 rfl rfl (by rw [hml]; rfl) (Nat.le_of_ble_eq_true rfl) rfl rfl (by decide) (by decide) all0 (fun _ _ => sf0) (hb hby at_1) (k_v (pc' := 4) rfl ?_)
  rintro _ h1 ⟨r3, rfl, rfl⟩ K2
  refine go_astore (pc' := 6) (ls' := #[.val (.int x0), .val (.int x1), .val (.int x2), .val (.int x3), .val (.int x4), .val (.int x5), .val (.ref r3), .unset, .unset, .unset, .unset, .unset, .unset, .unset, .unset, .unset]) (hb hby at_4) rfl rfl rfl ?_
  refine go_iload_n (pc' := 7) (hb hby at_6) rfl rfl ?_
  refine callS0 (cells' := 0) (slots' := 0) (Wd := 0) (argsL := [(.int x1)]) (rest := []) (pay_of (a0 := a0) (c_iso l G x1 h0 O0 ) (wk G 10 rfl) (wk G 2 rfl) (by decide) (by decide)) (wk G 8 rfl) (wk G 9 rfl) (wk G 2 rfl) (wk G 10 rfl) (by decide) pd11 rfl rfl (by rw [hml]; rfl) (Nat.le_of_ble_eq_true rfl) rfl rfl (by decide) (by decide) all0 (fun _ _ => sf0) (hb hby at_7) (k_v (pc' := 10) rfl ?_)
  rintro _ h4 ⟨r6, rfl, rfl⟩ K5
  refine go_astore (pc' := 12) (ls' := #[.val (.int x0), .val (.int x1), .val (.int x2), .val (.int x3), .val (.int x4), .val (.int x5), .val (.ref r3), .val (.ref r6), .unset, .unset, .unset, .unset, .unset, .unset, .unset, .unset]) (hb hby at_10) rfl rfl rfl ?_
  refine go_iload_n (pc' := 13) (hb hby at_12) rfl rfl ?_
  refine callS0 (cells' := 0) (slots' := 0) (Wd := 0) (argsL := [(.int x2)]) (rest := []) (pay_of (a0 := a0) (c_iso l G x2 h0 O0 ) (wk G 10 rfl) (wk G 2 rfl) (by decide) (by decide)) (wk G 8 rfl) (wk G 9 rfl) (wk G 2 rfl) (wk G 10 rfl) (by decide) pd11 rfl rfl (by rw [hml]; rfl) (Nat.le_of_ble_eq_true rfl) rfl rfl (by decide) (by decide) all0 (fun _ _ => sf0) (hb hby at_13) (k_v (pc' := 16) rfl ?_)
  rintro _ h7 ⟨r9, rfl, rfl⟩ K8
  refine go_astore (pc' := 18) (ls' := #[.val (.int x0), .val (.int x1), .val (.int x2), .val (.int x3), .val (.int x4), .val (.int x5), .val (.ref r3), .val (.ref r6), .val (.ref r9), .unset, .unset, .unset, .unset, .unset, .unset, .unset]) (hb hby at_16) rfl rfl rfl ?_
  refine go_iload_n (pc' := 19) (hb hby at_18) rfl rfl ?_
  refine go_iconst (pc' := 20) (v := (-1)) (hb hby at_19) rfl rfl ?_
  by_cases c10 : x3 < (-1 : Int32)
  · refine go_icF (pc' := 23) (hb hby at_20) rfl (XT.ii_ge_f c10) ?_
    refine go_iload_n (pc' := 24) (hb hby at_23) rfl rfl ?_
    refine go_iconst (pc' := 25) (v := (-1)) (hb hby at_24) rfl rfl ?_
    refine go_ixor (pc' := 26) (z := (x3 ^^^ (-1 : Int32))) (hb hby at_25) rfl rfl ?_
    refine go_goto (pc' := 30) (hb hby at_26) (by decide) rfl ?_
    refine go_istore (pc' := 32) (ls' := #[.val (.int x0), .val (.int x1), .val (.int x2), .val (.int x3), .val (.int x4), .val (.int x5), .val (.ref r3), .val (.ref r6), .val (.ref r9), .val (.int (x3 ^^^ (-1 : Int32))), .unset, .unset, .unset, .unset, .unset, .unset]) (hb hby at_30) rfl rfl ?_
    refine go_iload (pc' := 34) (hb hby at_32) rfl rfl ?_
    refine go_iconst (pc' := 35) (v := 1) (hb hby at_34) rfl rfl ?_
    refine go_iand (pc' := 36) (z := (x4 &&& (1 : Int32))) (hb hby at_35) rfl rfl ?_
    by_cases c11 : (x4 &&& (1 : Int32)) = (0 : Int32)
    · refine go_ifT (pc' := 43) (hb hby at_36) (by decide) rfl (XT.i0_eq_t c11) ?_
      refine go_iconst (pc' := 44) (v := 0) (hb hby at_43) rfl rfl ?_
      refine go_istore (pc' := 46) (ls' := #[.val (.int x0), .val (.int x1), .val (.int x2), .val (.int x3), .val (.int x4), .val (.int x5), .val (.ref r3), .val (.ref r6), .val (.ref r9), .val (.int (x3 ^^^ (-1 : Int32))), .val (.int (0 : Int32)), .unset, .unset, .unset, .unset, .unset]) (hb hby at_44) rfl rfl ?_
      refine go_iload (pc' := 48) (hb hby at_46) rfl rfl ?_
      refine go_iload (pc' := 50) (hb hby at_48) rfl rfl ?_
      refine callSW0 rfl (cells' := 6) (slots' := 12) (Wd := 0) (argsL := [(.int x4), (.int x5)]) (rest := []) (payW_of (a0 := a0) (c_mkname l G x4 x5 h0 O0 ) (wk G 18 rfl) (wk G 2 rfl) (by decide) (by decide) (ew1 G)) (wk G 16 rfl) (wk G 17 rfl) (wk G 2 rfl) (wk G 18 rfl) (by decide) pd12 rfl rfl (by rw [hml]; rfl) (Nat.le_of_ble_eq_true rfl) rfl rfl (by decide) (by decide) all0 (hb hby at_50) (k_v (pc' := 53) rfl ?_)
      rintro _ h12 (rfl | ⟨r14, rfl, f15⟩) K13
      · refine go_astore (pc' := 55) (ls' := #[.val (.int x0), .val (.int x1), .val (.int x2), .val (.int x3), .val (.int x4), .val (.int x5), .val (.ref r3), .val (.ref r6), .val (.ref r9), .val (.int (x3 ^^^ (-1 : Int32))), .val (.int (0 : Int32)), .val .null, .unset, .unset, .unset, .unset]) (hb hby at_53) rfl rfl rfl ?_
        refine go_newO (pc' := 58) (cells' := 7) (slots' := 17) (wk G 41 rfl) (wk G 42 rfl) (wk G 43 rfl) (hb hby at_55) rfl rfl rfl (by decide) (by decide) (fun h16 a17 g18 X19 E20 D21 U22 => ?_)
        refine go_dup (pc' := 59) (hb hby at_58) rfl rfl ?_
        refine go_aload (pc' := 61) (hb hby at_59) rfl rfl rfl ?_
        refine go_aload (pc' := 63) (hb hby at_61) rfl rfl rfl ?_
        refine go_iload (pc' := 65) (hb hby at_63) rfl rfl ?_
        refine go_iload (pc' := 67) (hb hby at_65) rfl rfl ?_
        refine go_aload (pc' := 69) (hb hby at_67) rfl rfl rfl ?_
        have K23 : Keep h0 h12 [] := ((Keep.refl h0 []).trans K13 all0)
        have F24 := D21 (Or.inr (wk G 60 rfl)) (ty := (.object "com/example/commitwise/commitwise/Propagation")) (by decide)
        have F25 := D21 (Or.inr (wk G 62 rfl)) (ty := (.object "com/example/commitwise/commitwise/Isolation")) (by decide)
        have F26 := D21 (Or.inr (wk G 64 rfl)) (ty := .int) (by decide)
        have F27 := D21 (Or.inr (wk G 66 rfl)) (ty := .boolean) (by decide)
        have F28 := D21 (Or.inr (wk G 68 rfl)) (ty := (.object "java/lang/String")) (by decide)
        refine go_old (fun O29 => ?_)
        refine callIW0 rfl (cells' := 11) (slots' := 105) (Wd := 1) (argsL := [(.ref r3), (.ref r6), (.int (x3 ^^^ (-1 : Int32))), (.int (0 : Int32)), .null]) (rest := [(.ref a17)]) (payW_of (a0 := a0) (c_tdinit l G a17 r3 r6 (x3 ^^^ (-1 : Int32)) (0 : Int32) .null h16 O29 E20 (Nat.le_trans O0.2.1 (Nat.le_trans K23.1 (Nat.le_of_eq g18))) (tm_x c10) (⟨rfl, by decide⟩) rfl F24 F25 F26 F27 F28) (wk G 46 rfl) (wk G 43 rfl) (by decide) (by decide) (ew1 G)) rfl (wk G 44 rfl) (wk G 45 rfl) (wk G 46 rfl) (by decide) pd7 rfl rfl (by rw [hml]; rfl) (Nat.le_of_ble_eq_true rfl) rfl rfl (by decide) (by decide) (allS (Nat.le_trans O0.2.1 (Nat.le_trans K23.1 (Nat.le_of_eq g18))) all0) (hb hby at_69) (k_n (pc' := 72) rfl ?_)
        rintro  h30 ⟨f32, f33, f34, f35, f36⟩ K31
        refine go_astore (pc' := 74) (ls' := #[.val (.int x0), .val (.int x1), .val (.int x2), .val (.int x3), .val (.int x4), .val (.int x5), .val (.ref r3), .val (.ref r6), .val (.ref r9), .val (.int (x3 ^^^ (-1 : Int32))), .val (.int (0 : Int32)), .val .null, .val (.ref a17), .unset, .unset, .unset]) (hb hby at_72) rfl rfl rfl ?_
        refine go_aload (pc' := 76) (hb hby at_74) rfl rfl rfl ?_
        refine go_aload (pc' := 78) (hb hby at_76) rfl rfl rfl ?_
        refine go_old (fun O37 => ?_)
        have E38 := (E20.keep K31)
        refine callVW0 rfl (cells' := 16) (slots' := 198) (Wd := 0) (argsL := [(.ref r9)]) (rest := []) (payW_of (a0 := a0) (c_withiso l G a17 r9 r3 r6 (x3 ^^^ (-1 : Int32)) (0 : Int32) .null h30 O37 f32 f33 f34 f35 f36 (tm_x c10) (⟨rfl, by decide⟩) rfl) (wk G 73 rfl) (wk G 43 rfl) (by decide) (by decide) (ew1 G)) E38 (wk G 69 rfl) (wk G 70 rfl) (wk G 72 rfl) (wk G 72 rfl) (wk G 71 rfl) (by decide) pd13 rfl rfl (by rw [hml]; rfl) (Nat.le_of_ble_eq_true rfl) rfl rfl (by decide) (by decide) all0 (hb hby at_78) (k_v (pc' := 81) rfl ?_)
        rintro _ h39 ⟨r41, rfl, f42, f43, f44, f45, f46, f47, f48⟩ K40
        refine go_astore (pc' := 83) (ls' := #[.val (.int x0), .val (.int x1), .val (.int x2), .val (.int x3), .val (.int x4), .val (.int x5), .val (.ref r3), .val (.ref r6), .val (.ref r9), .val (.int (x3 ^^^ (-1 : Int32))), .val (.int (0 : Int32)), .val .null, .val (.ref a17), .val (.ref r41), .unset, .unset]) (hb hby at_81) rfl rfl rfl ?_
        refine go_aload (pc' := 85) (hb hby at_83) rfl rfl rfl ?_
        refine go_nnT (pc' := 90) (hb hby at_85) (by decide) rfl ?_
        refine go_aload (pc' := 92) (hb hby at_90) rfl rfl rfl ?_
        refine go_old (fun O49 => ?_)
        refine callV0 (cells' := 16) (slots' := 198) (Wd := 0) (argsL := []) (rest := []) (pay_of (a0 := a0) (c_name l G r41 .null h39 O49 f48 rfl) (wk G 80 rfl) (wk G 43 rfl) (by decide) (by decide)) f43 (wk G 76 rfl) (wk G 77 rfl) (wk G 79 rfl) (wk G 79 rfl) (wk G 78 rfl) (by decide) pd14 rfl rfl (by rw [hml]; rfl) (Nat.le_of_ble_eq_true rfl) rfl rfl (by decide) (by decide) all0 (fun _ _ => sf0) (hb hby at_92) (k_v (pc' := 95) rfl ?_)
        rintro _ h50 ⟨rfl, rfl⟩ K51
        refine go_astore (pc' := 97) (ls' := #[.val (.int x0), .val (.int x1), .val (.int x2), .val (.int x3), .val (.int x4), .val (.int x5), .val (.ref r3), .val (.ref r6), .val (.ref r9), .val (.int (x3 ^^^ (-1 : Int32))), .val (.int (0 : Int32)), .val .null, .val (.ref a17), .val (.ref r41), .val .null, .unset]) (hb hby at_95) rfl rfl rfl ?_
        refine go_aload (pc' := 99) (hb hby at_97) rfl rfl rfl ?_
        refine go_nnF (pc' := 102) (hb hby at_99) rfl ?_
        refine go_aload (pc' := 104) (hb hby at_102) rfl rfl rfl ?_
        refine go_nnF (pc' := 107) (hb hby at_104) rfl ?_
        refine go_iconst (pc' := 108) (v := 1) (hb hby at_107) rfl rfl ?_
        refine go_goto (pc' := 122) (hb hby at_108) (by decide) rfl ?_
        refine go_istore (pc' := 124) (ls' := #[.val (.int x0), .val (.int x1), .val (.int x2), .val (.int x3), .val (.int x4), .val (.int x5), .val (.ref r3), .val (.ref r6), .val (.ref r9), .val (.int (x3 ^^^ (-1 : Int32))), .val (.int (0 : Int32)), .val .null, .val (.ref a17), .val (.ref r41), .val .null, .val (.int (1 : Int32))]) (hb hby at_122) rfl rfl ?_
        refine go_aload (pc' := 126) (hb hby at_124) rfl rfl rfl ?_
        refine callV0 (cells' := 16) (slots' := 198) (Wd := 0) (argsL := []) (rest := []) (pay_of (a0 := a0) (c_propagation l G r41 r3 h39 O49 f44) (wk G 90 rfl) (wk G 43 rfl) (by decide) (by decide)) f43 (wk G 86 rfl) (wk G 87 rfl) (wk G 89 rfl) (wk G 89 rfl) (wk G 88 rfl) (by decide) pd15 rfl rfl (by rw [hml]; rfl) (Nat.le_of_ble_eq_true rfl) rfl rfl (by decide) (by decide) all0 (fun _ _ => sf0) (hb hby at_126) (k_v (pc' := 129) rfl ?_)
        rintro _ h52 ⟨rfl, rfl⟩ K53
        refine go_aload (pc' := 131) (hb hby at_129) rfl rfl rfl ?_
        refine go_acF (pc' := 134) (hb hby at_131) rfl rfl rfl (XT.aa_ne_f rfl) ?_
        refine go_aload (pc' := 136) (hb hby at_134) rfl rfl rfl ?_
        refine callV0 (cells' := 16) (slots' := 198) (Wd := 0) (argsL := []) (rest := []) (pay_of (a0 := a0) (c_isolation l G r41 r9 h39 O49 f45) (wk G 95 rfl) (wk G 43 rfl) (by decide) (by decide)) f43 (wk G 91 rfl) (wk G 92 rfl) (wk G 94 rfl) (wk G 94 rfl) (wk G 93 rfl) (by decide) pd16 rfl rfl (by rw [hml]; rfl) (Nat.le_of_ble_eq_true rfl) rfl rfl (by decide) (by decide) all0 (fun _ _ => sf0) (hb hby at_136) (k_v (pc' := 139) rfl ?_)
        rintro _ h54 ⟨rfl, rfl⟩ K55
        refine go_aload (pc' := 141) (hb hby at_139) rfl rfl rfl ?_
        refine go_acF (pc' := 144) (hb hby at_141) rfl rfl rfl (XT.aa_ne_f rfl) ?_
        refine go_aload (pc' := 146) (hb hby at_144) rfl rfl rfl ?_
        refine callV0 (cells' := 16) (slots' := 198) (Wd := 0) (argsL := []) (rest := []) (pay_of (a0 := a0) (c_timeout l G r41 (x3 ^^^ (-1 : Int32)) h39 O49 f46) (wk G 100 rfl) (wk G 43 rfl) (by decide) (by decide)) f43 (wk G 96 rfl) (wk G 97 rfl) (wk G 99 rfl) (wk G 99 rfl) (wk G 98 rfl) (by decide) pd17 rfl rfl (by rw [hml]; rfl) (Nat.le_of_ble_eq_true rfl) rfl rfl (by decide) (by decide) all0 (fun _ _ => sf0) (hb hby at_146) (k_v (pc' := 149) rfl ?_)
        rintro _ h56 ⟨rfl, rfl⟩ K57
        refine go_iload (pc' := 151) (hb hby at_149) rfl rfl ?_
        refine go_icF (pc' := 154) (hb hby at_151) rfl (XT.ii_ne_f rfl) ?_
        refine go_aload (pc' := 156) (hb hby at_154) rfl rfl rfl ?_
        refine callV0 (cells' := 16) (slots' := 198) (Wd := 0) (argsL := []) (rest := []) (pay_of (a0 := a0) (c_readonly l G r41 (0 : Int32) h39 O49 f47 (⟨rfl, by decide⟩)) (wk G 105 rfl) (wk G 43 rfl) (by decide) (by decide)) f43 (wk G 101 rfl) (wk G 102 rfl) (wk G 104 rfl) (wk G 104 rfl) (wk G 103 rfl) (by decide) pd18 rfl rfl (by rw [hml]; rfl) (Nat.le_of_ble_eq_true rfl) rfl rfl (by decide) (by decide) all0 (fun _ _ => sf0) (hb hby at_156) (k_v (pc' := 159) rfl ?_)
        rintro _ h58 ⟨rfl, rfl⟩ K59
        refine go_iload (pc' := 161) (hb hby at_159) rfl rfl ?_
        refine go_icF (pc' := 164) (hb hby at_161) rfl (by decide) ?_
        refine go_iload (pc' := 166) (hb hby at_164) rfl rfl ?_
        refine go_ifF (pc' := 169) (hb hby at_166) rfl (by decide) ?_
        refine go_aload (pc' := 171) (hb hby at_169) rfl rfl rfl ?_
        have K60 : Keep h30 h39 [] := ((Keep.refl h30 []).trans K40 all0)
        have F61 := (f33.keep K60 nin0)
        have E62 := (E38.keep K60)
        refine callV0 (cells' := 16) (slots' := 198) (Wd := 0) (argsL := []) (rest := []) (pay_of (a0 := a0) (c_isolation l G a17 r6 h39 O49 F61) (wk G 95 rfl) (wk G 43 rfl) (by decide) (by decide)) E62 (wk G 91 rfl) (wk G 92 rfl) (wk G 94 rfl) (wk G 94 rfl) (wk G 93 rfl) (by decide) pd16 rfl rfl (by rw [hml]; rfl) (Nat.le_of_ble_eq_true rfl) rfl rfl (by decide) (by decide) all0 (fun _ _ => sf0) (hb hby at_171) (k_v (pc' := 174) rfl ?_)
        rintro _ h63 ⟨rfl, rfl⟩ K64
        refine go_aload (pc' := 176) (hb hby at_174) rfl rfl rfl ?_
        refine go_acF (pc' := 179) (hb hby at_176) rfl rfl rfl (XT.aa_ne_f rfl) ?_
        refine go_iconst (pc' := 180) (v := 1) (hb hby at_179) rfl rfl ?_
        refine go_goto (pc' := 184) (hb hby at_180) (by decide) rfl ?_
        have K65 : Keep h0 h16 [] := (K23.ext X19)
        have K66 : Keep h0 h30 [] := (K65.trans K31 (allS (Or.inr (Nat.le_trans K23.1 (Nat.le_of_eq g18))) all0))
        have K67 : Keep h0 h39 [] := (K66.trans K40 all0)
        refine go_ireturn hret hlk rfl (by simp) (hb hby at_184) (by decide) (by decide) ⟨_, rfl, rfl⟩ K67
      · refine go_astore (pc' := 55) (ls' := #[.val (.int x0), .val (.int x1), .val (.int x2), .val (.int x3), .val (.int x4), .val (.int x5), .val (.ref r3), .val (.ref r6), .val (.ref r9), .val (.int (x3 ^^^ (-1 : Int32))), .val (.int (0 : Int32)), .val (.ref r14), .unset, .unset, .unset, .unset]) (hb hby at_53) rfl rfl rfl ?_
        refine go_newO (pc' := 58) (cells' := 7) (slots' := 17) (wk G 41 rfl) (wk G 42 rfl) (wk G 43 rfl) (hb hby at_55) rfl rfl rfl (by decide) (by decide) (fun h68 a69 g70 X71 E72 D73 U74 => ?_)
        refine go_dup (pc' := 59) (hb hby at_58) rfl rfl ?_
        refine go_aload (pc' := 61) (hb hby at_59) rfl rfl rfl ?_
        refine go_aload (pc' := 63) (hb hby at_61) rfl rfl rfl ?_
        refine go_iload (pc' := 65) (hb hby at_63) rfl rfl ?_
        refine go_iload (pc' := 67) (hb hby at_65) rfl rfl ?_
        refine go_aload (pc' := 69) (hb hby at_67) rfl rfl rfl ?_
        have K75 : Keep h0 h12 [] := ((Keep.refl h0 []).trans K13 all0)
        have F76 := D73 (Or.inr (wk G 60 rfl)) (ty := (.object "com/example/commitwise/commitwise/Propagation")) (by decide)
        have F77 := D73 (Or.inr (wk G 62 rfl)) (ty := (.object "com/example/commitwise/commitwise/Isolation")) (by decide)
        have F78 := D73 (Or.inr (wk G 64 rfl)) (ty := .int) (by decide)
        have F79 := D73 (Or.inr (wk G 66 rfl)) (ty := .boolean) (by decide)
        have F80 := D73 (Or.inr (wk G 68 rfl)) (ty := (.object "java/lang/String")) (by decide)
        refine go_old (fun O81 => ?_)
        refine callIW0 rfl (cells' := 11) (slots' := 105) (Wd := 1) (argsL := [(.ref r3), (.ref r6), (.int (x3 ^^^ (-1 : Int32))), (.int (0 : Int32)), (.ref r14)]) (rest := [(.ref a69)]) (payW_of (a0 := a0) (c_tdinit l G a69 r3 r6 (x3 ^^^ (-1 : Int32)) (0 : Int32) (.ref r14) h68 O81 E72 (Nat.le_trans O0.2.1 (Nat.le_trans K75.1 (Nat.le_of_eq g70))) (tm_x c10) (⟨rfl, by decide⟩) rfl F76 F77 F78 F79 F80) (wk G 46 rfl) (wk G 43 rfl) (by decide) (by decide) (ew1 G)) rfl (wk G 44 rfl) (wk G 45 rfl) (wk G 46 rfl) (by decide) pd7 rfl rfl (by rw [hml]; rfl) (Nat.le_of_ble_eq_true rfl) rfl rfl (by decide) (by decide) (allS (Nat.le_trans O0.2.1 (Nat.le_trans K75.1 (Nat.le_of_eq g70))) all0) (hb hby at_69) (k_n (pc' := 72) rfl ?_)
        rintro  h82 ⟨f84, f85, f86, f87, f88⟩ K83
        refine go_astore (pc' := 74) (ls' := #[.val (.int x0), .val (.int x1), .val (.int x2), .val (.int x3), .val (.int x4), .val (.int x5), .val (.ref r3), .val (.ref r6), .val (.ref r9), .val (.int (x3 ^^^ (-1 : Int32))), .val (.int (0 : Int32)), .val (.ref r14), .val (.ref a69), .unset, .unset, .unset]) (hb hby at_72) rfl rfl rfl ?_
        refine go_aload (pc' := 76) (hb hby at_74) rfl rfl rfl ?_
        refine go_aload (pc' := 78) (hb hby at_76) rfl rfl rfl ?_
        refine go_old (fun O89 => ?_)
        have E90 := (E72.keep K83)
        refine callVW0 rfl (cells' := 16) (slots' := 198) (Wd := 0) (argsL := [(.ref r9)]) (rest := []) (payW_of (a0 := a0) (c_withiso l G a69 r9 r3 r6 (x3 ^^^ (-1 : Int32)) (0 : Int32) (.ref r14) h82 O89 f84 f85 f86 f87 f88 (tm_x c10) (⟨rfl, by decide⟩) rfl) (wk G 73 rfl) (wk G 43 rfl) (by decide) (by decide) (ew1 G)) E90 (wk G 69 rfl) (wk G 70 rfl) (wk G 72 rfl) (wk G 72 rfl) (wk G 71 rfl) (by decide) pd13 rfl rfl (by rw [hml]; rfl) (Nat.le_of_ble_eq_true rfl) rfl rfl (by decide) (by decide) all0 (hb hby at_78) (k_v (pc' := 81) rfl ?_)
        rintro _ h91 ⟨r93, rfl, f94, f95, f96, f97, f98, f99, f100⟩ K92
        refine go_astore (pc' := 83) (ls' := #[.val (.int x0), .val (.int x1), .val (.int x2), .val (.int x3), .val (.int x4), .val (.int x5), .val (.ref r3), .val (.ref r6), .val (.ref r9), .val (.int (x3 ^^^ (-1 : Int32))), .val (.int (0 : Int32)), .val (.ref r14), .val (.ref a69), .val (.ref r93), .unset, .unset]) (hb hby at_81) rfl rfl rfl ?_
        refine go_aload (pc' := 85) (hb hby at_83) rfl rfl rfl ?_
        refine go_nnT (pc' := 90) (hb hby at_85) (by decide) rfl ?_
        refine go_aload (pc' := 92) (hb hby at_90) rfl rfl rfl ?_
        refine go_old (fun O101 => ?_)
        refine callV0 (cells' := 16) (slots' := 198) (Wd := 0) (argsL := []) (rest := []) (pay_of (a0 := a0) (c_name l G r93 (.ref r14) h91 O101 f100 rfl) (wk G 80 rfl) (wk G 43 rfl) (by decide) (by decide)) f95 (wk G 76 rfl) (wk G 77 rfl) (wk G 79 rfl) (wk G 79 rfl) (wk G 78 rfl) (by decide) pd14 rfl rfl (by rw [hml]; rfl) (Nat.le_of_ble_eq_true rfl) rfl rfl (by decide) (by decide) all0 (fun _ _ => sf0) (hb hby at_92) (k_v (pc' := 95) rfl ?_)
        rintro _ h102 ⟨rfl, rfl⟩ K103
        refine go_astore (pc' := 97) (ls' := #[.val (.int x0), .val (.int x1), .val (.int x2), .val (.int x3), .val (.int x4), .val (.int x5), .val (.ref r3), .val (.ref r6), .val (.ref r9), .val (.int (x3 ^^^ (-1 : Int32))), .val (.int (0 : Int32)), .val (.ref r14), .val (.ref a69), .val (.ref r93), .val (.ref r14), .unset]) (hb hby at_95) rfl rfl rfl ?_
        refine go_aload (pc' := 99) (hb hby at_97) rfl rfl rfl ?_
        refine go_nnT (pc' := 115) (hb hby at_99) (by decide) rfl ?_
        refine go_aload (pc' := 117) (hb hby at_115) rfl rfl rfl ?_
        refine go_aload (pc' := 119) (hb hby at_117) rfl rfl rfl ?_
        have K104 : Keep h12 h68 [] := ((Keep.refl h12 []).ext X71)
        have K105 : Keep h12 h82 [] := (K104.trans K83 (allS (Or.inr (Nat.le_of_eq g70)) all0))
        have K106 : Keep h12 h91 [] := (K105.trans K92 all0)
        have E107 := (f15.keep K106)
        refine callV0 (cells' := 16) (slots' := 198) (Wd := 0) (argsL := [(.ref r14)]) (rest := []) (pay_of (a0 := a0) (c_eqsame l G r14 h91 O101 ) (wk G 85 rfl) (wk G 21 rfl) (by decide) (by decide)) E107 (wk G 81 rfl) (wk G 82 rfl) (wk G 84 rfl) (wk G 84 rfl) (wk G 83 rfl) (by decide) pd19 rfl rfl (by rw [hml]; rfl) (Nat.le_of_ble_eq_true rfl) rfl rfl (by decide) (by decide) all0 (fun _ _ => sf0) (hb hby at_119) (k_v (pc' := 122) rfl ?_)
        rintro _ h108 ⟨rfl, rfl⟩ K109
        refine go_istore (pc' := 124) (ls' := #[.val (.int x0), .val (.int x1), .val (.int x2), .val (.int x3), .val (.int x4), .val (.int x5), .val (.ref r3), .val (.ref r6), .val (.ref r9), .val (.int (x3 ^^^ (-1 : Int32))), .val (.int (0 : Int32)), .val (.ref r14), .val (.ref a69), .val (.ref r93), .val (.ref r14), .val (.int (1 : Int32))]) (hb hby at_122) rfl rfl ?_
        refine go_aload (pc' := 126) (hb hby at_124) rfl rfl rfl ?_
        refine callV0 (cells' := 16) (slots' := 198) (Wd := 0) (argsL := []) (rest := []) (pay_of (a0 := a0) (c_propagation l G r93 r3 h91 O101 f96) (wk G 90 rfl) (wk G 43 rfl) (by decide) (by decide)) f95 (wk G 86 rfl) (wk G 87 rfl) (wk G 89 rfl) (wk G 89 rfl) (wk G 88 rfl) (by decide) pd15 rfl rfl (by rw [hml]; rfl) (Nat.le_of_ble_eq_true rfl) rfl rfl (by decide) (by decide) all0 (fun _ _ => sf0) (hb hby at_126) (k_v (pc' := 129) rfl ?_)
        rintro _ h110 ⟨rfl, rfl⟩ K111
        refine go_aload (pc' := 131) (hb hby at_129) rfl rfl rfl ?_
        refine go_acF (pc' := 134) (hb hby at_131) rfl rfl rfl (XT.aa_ne_f rfl) ?_
        refine go_aload (pc' := 136) (hb hby at_134) rfl rfl rfl ?_
        refine callV0 (cells' := 16) (slots' := 198) (Wd := 0) (argsL := []) (rest := []) (pay_of (a0 := a0) (c_isolation l G r93 r9 h91 O101 f97) (wk G 95 rfl) (wk G 43 rfl) (by decide) (by decide)) f95 (wk G 91 rfl) (wk G 92 rfl) (wk G 94 rfl) (wk G 94 rfl) (wk G 93 rfl) (by decide) pd16 rfl rfl (by rw [hml]; rfl) (Nat.le_of_ble_eq_true rfl) rfl rfl (by decide) (by decide) all0 (fun _ _ => sf0) (hb hby at_136) (k_v (pc' := 139) rfl ?_)
        rintro _ h112 ⟨rfl, rfl⟩ K113
        refine go_aload (pc' := 141) (hb hby at_139) rfl rfl rfl ?_
        refine go_acF (pc' := 144) (hb hby at_141) rfl rfl rfl (XT.aa_ne_f rfl) ?_
        refine go_aload (pc' := 146) (hb hby at_144) rfl rfl rfl ?_
        refine callV0 (cells' := 16) (slots' := 198) (Wd := 0) (argsL := []) (rest := []) (pay_of (a0 := a0) (c_timeout l G r93 (x3 ^^^ (-1 : Int32)) h91 O101 f98) (wk G 100 rfl) (wk G 43 rfl) (by decide) (by decide)) f95 (wk G 96 rfl) (wk G 97 rfl) (wk G 99 rfl) (wk G 99 rfl) (wk G 98 rfl) (by decide) pd17 rfl rfl (by rw [hml]; rfl) (Nat.le_of_ble_eq_true rfl) rfl rfl (by decide) (by decide) all0 (fun _ _ => sf0) (hb hby at_146) (k_v (pc' := 149) rfl ?_)
        rintro _ h114 ⟨rfl, rfl⟩ K115
        refine go_iload (pc' := 151) (hb hby at_149) rfl rfl ?_
        refine go_icF (pc' := 154) (hb hby at_151) rfl (XT.ii_ne_f rfl) ?_
        refine go_aload (pc' := 156) (hb hby at_154) rfl rfl rfl ?_
        refine callV0 (cells' := 16) (slots' := 198) (Wd := 0) (argsL := []) (rest := []) (pay_of (a0 := a0) (c_readonly l G r93 (0 : Int32) h91 O101 f99 (⟨rfl, by decide⟩)) (wk G 105 rfl) (wk G 43 rfl) (by decide) (by decide)) f95 (wk G 101 rfl) (wk G 102 rfl) (wk G 104 rfl) (wk G 104 rfl) (wk G 103 rfl) (by decide) pd18 rfl rfl (by rw [hml]; rfl) (Nat.le_of_ble_eq_true rfl) rfl rfl (by decide) (by decide) all0 (fun _ _ => sf0) (hb hby at_156) (k_v (pc' := 159) rfl ?_)
        rintro _ h116 ⟨rfl, rfl⟩ K117
        refine go_iload (pc' := 161) (hb hby at_159) rfl rfl ?_
        refine go_icF (pc' := 164) (hb hby at_161) rfl (by decide) ?_
        refine go_iload (pc' := 166) (hb hby at_164) rfl rfl ?_
        refine go_ifF (pc' := 169) (hb hby at_166) rfl (by decide) ?_
        refine go_aload (pc' := 171) (hb hby at_169) rfl rfl rfl ?_
        have K118 : Keep h82 h91 [] := ((Keep.refl h82 []).trans K92 all0)
        have F119 := (f85.keep K118 nin0)
        have E120 := (E90.keep K118)
        refine callV0 (cells' := 16) (slots' := 198) (Wd := 0) (argsL := []) (rest := []) (pay_of (a0 := a0) (c_isolation l G a69 r6 h91 O101 F119) (wk G 95 rfl) (wk G 43 rfl) (by decide) (by decide)) E120 (wk G 91 rfl) (wk G 92 rfl) (wk G 94 rfl) (wk G 94 rfl) (wk G 93 rfl) (by decide) pd16 rfl rfl (by rw [hml]; rfl) (Nat.le_of_ble_eq_true rfl) rfl rfl (by decide) (by decide) all0 (fun _ _ => sf0) (hb hby at_171) (k_v (pc' := 174) rfl ?_)
        rintro _ h121 ⟨rfl, rfl⟩ K122
        refine go_aload (pc' := 176) (hb hby at_174) rfl rfl rfl ?_
        refine go_acF (pc' := 179) (hb hby at_176) rfl rfl rfl (XT.aa_ne_f rfl) ?_
        refine go_iconst (pc' := 180) (v := 1) (hb hby at_179) rfl rfl ?_
        refine go_goto (pc' := 184) (hb hby at_180) (by decide) rfl ?_
        have K123 : Keep h0 h68 [] := (K75.ext X71)
        have K124 : Keep h0 h82 [] := (K123.trans K83 (allS (Or.inr (Nat.le_trans K75.1 (Nat.le_of_eq g70))) all0))
        have K125 : Keep h0 h91 [] := (K124.trans K92 all0)
        refine go_ireturn hret hlk rfl (by simp) (hb hby at_184) (by decide) (by decide) ⟨_, rfl, rfl⟩ K125
    · refine go_ifF (pc' := 39) (hb hby at_36) rfl (XT.i0_eq_f c11) ?_
      refine go_iconst (pc' := 40) (v := 1) (hb hby at_39) rfl rfl ?_
      refine go_goto (pc' := 44) (hb hby at_40) (by decide) rfl ?_
      refine go_istore (pc' := 46) (ls' := #[.val (.int x0), .val (.int x1), .val (.int x2), .val (.int x3), .val (.int x4), .val (.int x5), .val (.ref r3), .val (.ref r6), .val (.ref r9), .val (.int (x3 ^^^ (-1 : Int32))), .val (.int (1 : Int32)), .unset, .unset, .unset, .unset, .unset]) (hb hby at_44) rfl rfl ?_
      refine go_iload (pc' := 48) (hb hby at_46) rfl rfl ?_
      refine go_iload (pc' := 50) (hb hby at_48) rfl rfl ?_
      refine callSW0 rfl (cells' := 6) (slots' := 12) (Wd := 0) (argsL := [(.int x4), (.int x5)]) (rest := []) (payW_of (a0 := a0) (c_mkname l G x4 x5 h0 O0 ) (wk G 18 rfl) (wk G 2 rfl) (by decide) (by decide) (ew1 G)) (wk G 16 rfl) (wk G 17 rfl) (wk G 2 rfl) (wk G 18 rfl) (by decide) pd12 rfl rfl (by rw [hml]; rfl) (Nat.le_of_ble_eq_true rfl) rfl rfl (by decide) (by decide) all0 (hb hby at_50) (k_v (pc' := 53) rfl ?_)
      rintro _ h126 (rfl | ⟨r128, rfl, f129⟩) K127
      · refine go_astore (pc' := 55) (ls' := #[.val (.int x0), .val (.int x1), .val (.int x2), .val (.int x3), .val (.int x4), .val (.int x5), .val (.ref r3), .val (.ref r6), .val (.ref r9), .val (.int (x3 ^^^ (-1 : Int32))), .val (.int (1 : Int32)), .val .null, .unset, .unset, .unset, .unset]) (hb hby at_53) rfl rfl rfl ?_
        refine go_newO (pc' := 58) (cells' := 7) (slots' := 17) (wk G 41 rfl) (wk G 42 rfl) (wk G 43 rfl) (hb hby at_55) rfl rfl rfl (by decide) (by decide) (fun h130 a131 g132 X133 E134 D135 U136 => ?_)
        refine go_dup (pc' := 59) (hb hby at_58) rfl rfl ?_
        refine go_aload (pc' := 61) (hb hby at_59) rfl rfl rfl ?_
        refine go_aload (pc' := 63) (hb hby at_61) rfl rfl rfl ?_
        refine go_iload (pc' := 65) (hb hby at_63) rfl rfl ?_
        refine go_iload (pc' := 67) (hb hby at_65) rfl rfl ?_
        refine go_aload (pc' := 69) (hb hby at_67) rfl rfl rfl ?_
        have K137 : Keep h0 h126 [] := ((Keep.refl h0 []).trans K127 all0)
        have F138 := D135 (Or.inr (wk G 60 rfl)) (ty := (.object "com/example/commitwise/commitwise/Propagation")) (by decide)
        have F139 := D135 (Or.inr (wk G 62 rfl)) (ty := (.object "com/example/commitwise/commitwise/Isolation")) (by decide)
        have F140 := D135 (Or.inr (wk G 64 rfl)) (ty := .int) (by decide)
        have F141 := D135 (Or.inr (wk G 66 rfl)) (ty := .boolean) (by decide)
        have F142 := D135 (Or.inr (wk G 68 rfl)) (ty := (.object "java/lang/String")) (by decide)
        refine go_old (fun O143 => ?_)
        refine callIW0 rfl (cells' := 11) (slots' := 105) (Wd := 1) (argsL := [(.ref r3), (.ref r6), (.int (x3 ^^^ (-1 : Int32))), (.int (1 : Int32)), .null]) (rest := [(.ref a131)]) (payW_of (a0 := a0) (c_tdinit l G a131 r3 r6 (x3 ^^^ (-1 : Int32)) (1 : Int32) .null h130 O143 E134 (Nat.le_trans O0.2.1 (Nat.le_trans K137.1 (Nat.le_of_eq g132))) (tm_x c10) (⟨rfl, by decide⟩) rfl F138 F139 F140 F141 F142) (wk G 46 rfl) (wk G 43 rfl) (by decide) (by decide) (ew1 G)) rfl (wk G 44 rfl) (wk G 45 rfl) (wk G 46 rfl) (by decide) pd7 rfl rfl (by rw [hml]; rfl) (Nat.le_of_ble_eq_true rfl) rfl rfl (by decide) (by decide) (allS (Nat.le_trans O0.2.1 (Nat.le_trans K137.1 (Nat.le_of_eq g132))) all0) (hb hby at_69) (k_n (pc' := 72) rfl ?_)
        rintro  h144 ⟨f146, f147, f148, f149, f150⟩ K145
        refine go_astore (pc' := 74) (ls' := #[.val (.int x0), .val (.int x1), .val (.int x2), .val (.int x3), .val (.int x4), .val (.int x5), .val (.ref r3), .val (.ref r6), .val (.ref r9), .val (.int (x3 ^^^ (-1 : Int32))), .val (.int (1 : Int32)), .val .null, .val (.ref a131), .unset, .unset, .unset]) (hb hby at_72) rfl rfl rfl ?_
        refine go_aload (pc' := 76) (hb hby at_74) rfl rfl rfl ?_
        refine go_aload (pc' := 78) (hb hby at_76) rfl rfl rfl ?_
        refine go_old (fun O151 => ?_)
        have E152 := (E134.keep K145)
        refine callVW0 rfl (cells' := 16) (slots' := 198) (Wd := 0) (argsL := [(.ref r9)]) (rest := []) (payW_of (a0 := a0) (c_withiso l G a131 r9 r3 r6 (x3 ^^^ (-1 : Int32)) (1 : Int32) .null h144 O151 f146 f147 f148 f149 f150 (tm_x c10) (⟨rfl, by decide⟩) rfl) (wk G 73 rfl) (wk G 43 rfl) (by decide) (by decide) (ew1 G)) E152 (wk G 69 rfl) (wk G 70 rfl) (wk G 72 rfl) (wk G 72 rfl) (wk G 71 rfl) (by decide) pd13 rfl rfl (by rw [hml]; rfl) (Nat.le_of_ble_eq_true rfl) rfl rfl (by decide) (by decide) all0 (hb hby at_78) (k_v (pc' := 81) rfl ?_)
        rintro _ h153 ⟨r155, rfl, f156, f157, f158, f159, f160, f161, f162⟩ K154
        refine go_astore (pc' := 83) (ls' := #[.val (.int x0), .val (.int x1), .val (.int x2), .val (.int x3), .val (.int x4), .val (.int x5), .val (.ref r3), .val (.ref r6), .val (.ref r9), .val (.int (x3 ^^^ (-1 : Int32))), .val (.int (1 : Int32)), .val .null, .val (.ref a131), .val (.ref r155), .unset, .unset]) (hb hby at_81) rfl rfl rfl ?_
        refine go_aload (pc' := 85) (hb hby at_83) rfl rfl rfl ?_
        refine go_nnT (pc' := 90) (hb hby at_85) (by decide) rfl ?_
        refine go_aload (pc' := 92) (hb hby at_90) rfl rfl rfl ?_
        refine go_old (fun O163 => ?_)
        refine callV0 (cells' := 16) (slots' := 198) (Wd := 0) (argsL := []) (rest := []) (pay_of (a0 := a0) (c_name l G r155 .null h153 O163 f162 rfl) (wk G 80 rfl) (wk G 43 rfl) (by decide) (by decide)) f157 (wk G 76 rfl) (wk G 77 rfl) (wk G 79 rfl) (wk G 79 rfl) (wk G 78 rfl) (by decide) pd14 rfl rfl (by rw [hml]; rfl) (Nat.le_of_ble_eq_true rfl) rfl rfl (by decide) (by decide) all0 (fun _ _ => sf0) (hb hby at_92) (k_v (pc' := 95) rfl ?_)
        rintro _ h164 ⟨rfl, rfl⟩ K165
        refine go_astore (pc' := 97) (ls' := #[.val (.int x0), .val (.int x1), .val (.int x2), .val (.int x3), .val (.int x4), .val (.int x5), .val (.ref r3), .val (.ref r6), .val (.ref r9), .val (.int (x3 ^^^ (-1 : Int32))), .val (.int (1 : Int32)), .val .null, .val (.ref a131), .val (.ref r155), .val .null, .unset]) (hb hby at_95) rfl rfl rfl ?_
        refine go_aload (pc' := 99) (hb hby at_97) rfl rfl rfl ?_
        refine go_nnF (pc' := 102) (hb hby at_99) rfl ?_
        refine go_aload (pc' := 104) (hb hby at_102) rfl rfl rfl ?_
        refine go_nnF (pc' := 107) (hb hby at_104) rfl ?_
        refine go_iconst (pc' := 108) (v := 1) (hb hby at_107) rfl rfl ?_
        refine go_goto (pc' := 122) (hb hby at_108) (by decide) rfl ?_
        refine go_istore (pc' := 124) (ls' := #[.val (.int x0), .val (.int x1), .val (.int x2), .val (.int x3), .val (.int x4), .val (.int x5), .val (.ref r3), .val (.ref r6), .val (.ref r9), .val (.int (x3 ^^^ (-1 : Int32))), .val (.int (1 : Int32)), .val .null, .val (.ref a131), .val (.ref r155), .val .null, .val (.int (1 : Int32))]) (hb hby at_122) rfl rfl ?_
        refine go_aload (pc' := 126) (hb hby at_124) rfl rfl rfl ?_
        refine callV0 (cells' := 16) (slots' := 198) (Wd := 0) (argsL := []) (rest := []) (pay_of (a0 := a0) (c_propagation l G r155 r3 h153 O163 f158) (wk G 90 rfl) (wk G 43 rfl) (by decide) (by decide)) f157 (wk G 86 rfl) (wk G 87 rfl) (wk G 89 rfl) (wk G 89 rfl) (wk G 88 rfl) (by decide) pd15 rfl rfl (by rw [hml]; rfl) (Nat.le_of_ble_eq_true rfl) rfl rfl (by decide) (by decide) all0 (fun _ _ => sf0) (hb hby at_126) (k_v (pc' := 129) rfl ?_)
        rintro _ h166 ⟨rfl, rfl⟩ K167
        refine go_aload (pc' := 131) (hb hby at_129) rfl rfl rfl ?_
        refine go_acF (pc' := 134) (hb hby at_131) rfl rfl rfl (XT.aa_ne_f rfl) ?_
        refine go_aload (pc' := 136) (hb hby at_134) rfl rfl rfl ?_
        refine callV0 (cells' := 16) (slots' := 198) (Wd := 0) (argsL := []) (rest := []) (pay_of (a0 := a0) (c_isolation l G r155 r9 h153 O163 f159) (wk G 95 rfl) (wk G 43 rfl) (by decide) (by decide)) f157 (wk G 91 rfl) (wk G 92 rfl) (wk G 94 rfl) (wk G 94 rfl) (wk G 93 rfl) (by decide) pd16 rfl rfl (by rw [hml]; rfl) (Nat.le_of_ble_eq_true rfl) rfl rfl (by decide) (by decide) all0 (fun _ _ => sf0) (hb hby at_136) (k_v (pc' := 139) rfl ?_)
        rintro _ h168 ⟨rfl, rfl⟩ K169
        refine go_aload (pc' := 141) (hb hby at_139) rfl rfl rfl ?_
        refine go_acF (pc' := 144) (hb hby at_141) rfl rfl rfl (XT.aa_ne_f rfl) ?_
        refine go_aload (pc' := 146) (hb hby at_144) rfl rfl rfl ?_
        refine callV0 (cells' := 16) (slots' := 198) (Wd := 0) (argsL := []) (rest := []) (pay_of (a0 := a0) (c_timeout l G r155 (x3 ^^^ (-1 : Int32)) h153 O163 f160) (wk G 100 rfl) (wk G 43 rfl) (by decide) (by decide)) f157 (wk G 96 rfl) (wk G 97 rfl) (wk G 99 rfl) (wk G 99 rfl) (wk G 98 rfl) (by decide) pd17 rfl rfl (by rw [hml]; rfl) (Nat.le_of_ble_eq_true rfl) rfl rfl (by decide) (by decide) all0 (fun _ _ => sf0) (hb hby at_146) (k_v (pc' := 149) rfl ?_)
        rintro _ h170 ⟨rfl, rfl⟩ K171
        refine go_iload (pc' := 151) (hb hby at_149) rfl rfl ?_
        refine go_icF (pc' := 154) (hb hby at_151) rfl (XT.ii_ne_f rfl) ?_
        refine go_aload (pc' := 156) (hb hby at_154) rfl rfl rfl ?_
        refine callV0 (cells' := 16) (slots' := 198) (Wd := 0) (argsL := []) (rest := []) (pay_of (a0 := a0) (c_readonly l G r155 (1 : Int32) h153 O163 f161 (⟨rfl, by decide⟩)) (wk G 105 rfl) (wk G 43 rfl) (by decide) (by decide)) f157 (wk G 101 rfl) (wk G 102 rfl) (wk G 104 rfl) (wk G 104 rfl) (wk G 103 rfl) (by decide) pd18 rfl rfl (by rw [hml]; rfl) (Nat.le_of_ble_eq_true rfl) rfl rfl (by decide) (by decide) all0 (fun _ _ => sf0) (hb hby at_156) (k_v (pc' := 159) rfl ?_)
        rintro _ h172 ⟨rfl, rfl⟩ K173
        refine go_iload (pc' := 161) (hb hby at_159) rfl rfl ?_
        refine go_icF (pc' := 164) (hb hby at_161) rfl (by decide) ?_
        refine go_iload (pc' := 166) (hb hby at_164) rfl rfl ?_
        refine go_ifF (pc' := 169) (hb hby at_166) rfl (by decide) ?_
        refine go_aload (pc' := 171) (hb hby at_169) rfl rfl rfl ?_
        have K174 : Keep h144 h153 [] := ((Keep.refl h144 []).trans K154 all0)
        have F175 := (f147.keep K174 nin0)
        have E176 := (E152.keep K174)
        refine callV0 (cells' := 16) (slots' := 198) (Wd := 0) (argsL := []) (rest := []) (pay_of (a0 := a0) (c_isolation l G a131 r6 h153 O163 F175) (wk G 95 rfl) (wk G 43 rfl) (by decide) (by decide)) E176 (wk G 91 rfl) (wk G 92 rfl) (wk G 94 rfl) (wk G 94 rfl) (wk G 93 rfl) (by decide) pd16 rfl rfl (by rw [hml]; rfl) (Nat.le_of_ble_eq_true rfl) rfl rfl (by decide) (by decide) all0 (fun _ _ => sf0) (hb hby at_171) (k_v (pc' := 174) rfl ?_)
        rintro _ h177 ⟨rfl, rfl⟩ K178
        refine go_aload (pc' := 176) (hb hby at_174) rfl rfl rfl ?_
        refine go_acF (pc' := 179) (hb hby at_176) rfl rfl rfl (XT.aa_ne_f rfl) ?_
        refine go_iconst (pc' := 180) (v := 1) (hb hby at_179) rfl rfl ?_
        refine go_goto (pc' := 184) (hb hby at_180) (by decide) rfl ?_
        have K179 : Keep h0 h130 [] := (K137.ext X133)
        have K180 : Keep h0 h144 [] := (K179.trans K145 (allS (Or.inr (Nat.le_trans K137.1 (Nat.le_of_eq g132))) all0))
        have K181 : Keep h0 h153 [] := (K180.trans K154 all0)
        refine go_ireturn hret hlk rfl (by simp) (hb hby at_184) (by decide) (by decide) ⟨_, rfl, rfl⟩ K181
      · refine go_astore (pc' := 55) (ls' := #[.val (.int x0), .val (.int x1), .val (.int x2), .val (.int x3), .val (.int x4), .val (.int x5), .val (.ref r3), .val (.ref r6), .val (.ref r9), .val (.int (x3 ^^^ (-1 : Int32))), .val (.int (1 : Int32)), .val (.ref r128), .unset, .unset, .unset, .unset]) (hb hby at_53) rfl rfl rfl ?_
        refine go_newO (pc' := 58) (cells' := 7) (slots' := 17) (wk G 41 rfl) (wk G 42 rfl) (wk G 43 rfl) (hb hby at_55) rfl rfl rfl (by decide) (by decide) (fun h182 a183 g184 X185 E186 D187 U188 => ?_)
        refine go_dup (pc' := 59) (hb hby at_58) rfl rfl ?_
        refine go_aload (pc' := 61) (hb hby at_59) rfl rfl rfl ?_
        refine go_aload (pc' := 63) (hb hby at_61) rfl rfl rfl ?_
        refine go_iload (pc' := 65) (hb hby at_63) rfl rfl ?_
        refine go_iload (pc' := 67) (hb hby at_65) rfl rfl ?_
        refine go_aload (pc' := 69) (hb hby at_67) rfl rfl rfl ?_
        have K189 : Keep h0 h126 [] := ((Keep.refl h0 []).trans K127 all0)
        have F190 := D187 (Or.inr (wk G 60 rfl)) (ty := (.object "com/example/commitwise/commitwise/Propagation")) (by decide)
        have F191 := D187 (Or.inr (wk G 62 rfl)) (ty := (.object "com/example/commitwise/commitwise/Isolation")) (by decide)
        have F192 := D187 (Or.inr (wk G 64 rfl)) (ty := .int) (by decide)
        have F193 := D187 (Or.inr (wk G 66 rfl)) (ty := .boolean) (by decide)
        have F194 := D187 (Or.inr (wk G 68 rfl)) (ty := (.object "java/lang/String")) (by decide)
        refine go_old (fun O195 => ?_)
        refine callIW0 rfl (cells' := 11) (slots' := 105) (Wd := 1) (argsL := [(.ref r3), (.ref r6), (.int (x3 ^^^ (-1 : Int32))), (.int (1 : Int32)), (.ref r128)]) (rest := [(.ref a183)]) (payW_of (a0 := a0) (c_tdinit l G a183 r3 r6 (x3 ^^^ (-1 : Int32)) (1 : Int32) (.ref r128) h182 O195 E186 (Nat.le_trans O0.2.1 (Nat.le_trans K189.1 (Nat.le_of_eq g184))) (tm_x c10) (⟨rfl, by decide⟩) rfl F190 F191 F192 F193 F194) (wk G 46 rfl) (wk G 43 rfl) (by decide) (by decide) (ew1 G)) rfl (wk G 44 rfl) (wk G 45 rfl) (wk G 46 rfl) (by decide) pd7 rfl rfl (by rw [hml]; rfl) (Nat.le_of_ble_eq_true rfl) rfl rfl (by decide) (by decide) (allS (Nat.le_trans O0.2.1 (Nat.le_trans K189.1 (Nat.le_of_eq g184))) all0) (hb hby at_69) (k_n (pc' := 72) rfl ?_)
        rintro  h196 ⟨f198, f199, f200, f201, f202⟩ K197
        refine go_astore (pc' := 74) (ls' := #[.val (.int x0), .val (.int x1), .val (.int x2), .val (.int x3), .val (.int x4), .val (.int x5), .val (.ref r3), .val (.ref r6), .val (.ref r9), .val (.int (x3 ^^^ (-1 : Int32))), .val (.int (1 : Int32)), .val (.ref r128), .val (.ref a183), .unset, .unset, .unset]) (hb hby at_72) rfl rfl rfl ?_
        refine go_aload (pc' := 76) (hb hby at_74) rfl rfl rfl ?_
        refine go_aload (pc' := 78) (hb hby at_76) rfl rfl rfl ?_
        refine go_old (fun O203 => ?_)
        have E204 := (E186.keep K197)
        refine callVW0 rfl (cells' := 16) (slots' := 198) (Wd := 0) (argsL := [(.ref r9)]) (rest := []) (payW_of (a0 := a0) (c_withiso l G a183 r9 r3 r6 (x3 ^^^ (-1 : Int32)) (1 : Int32) (.ref r128) h196 O203 f198 f199 f200 f201 f202 (tm_x c10) (⟨rfl, by decide⟩) rfl) (wk G 73 rfl) (wk G 43 rfl) (by decide) (by decide) (ew1 G)) E204 (wk G 69 rfl) (wk G 70 rfl) (wk G 72 rfl) (wk G 72 rfl) (wk G 71 rfl) (by decide) pd13 rfl rfl (by rw [hml]; rfl) (Nat.le_of_ble_eq_true rfl) rfl rfl (by decide) (by decide) all0 (hb hby at_78) (k_v (pc' := 81) rfl ?_)
        rintro _ h205 ⟨r207, rfl, f208, f209, f210, f211, f212, f213, f214⟩ K206
        refine go_astore (pc' := 83) (ls' := #[.val (.int x0), .val (.int x1), .val (.int x2), .val (.int x3), .val (.int x4), .val (.int x5), .val (.ref r3), .val (.ref r6), .val (.ref r9), .val (.int (x3 ^^^ (-1 : Int32))), .val (.int (1 : Int32)), .val (.ref r128), .val (.ref a183), .val (.ref r207), .unset, .unset]) (hb hby at_81) rfl rfl rfl ?_
        refine go_aload (pc' := 85) (hb hby at_83) rfl rfl rfl ?_
        refine go_nnT (pc' := 90) (hb hby at_85) (by decide) rfl ?_
        refine go_aload (pc' := 92) (hb hby at_90) rfl rfl rfl ?_
        refine go_old (fun O215 => ?_)
        refine callV0 (cells' := 16) (slots' := 198) (Wd := 0) (argsL := []) (rest := []) (pay_of (a0 := a0) (c_name l G r207 (.ref r128) h205 O215 f214 rfl) (wk G 80 rfl) (wk G 43 rfl) (by decide) (by decide)) f209 (wk G 76 rfl) (wk G 77 rfl) (wk G 79 rfl) (wk G 79 rfl) (wk G 78 rfl) (by decide) pd14 rfl rfl (by rw [hml]; rfl) (Nat.le_of_ble_eq_true rfl) rfl rfl (by decide) (by decide) all0 (fun _ _ => sf0) (hb hby at_92) (k_v (pc' := 95) rfl ?_)
        rintro _ h216 ⟨rfl, rfl⟩ K217
        refine go_astore (pc' := 97) (ls' := #[.val (.int x0), .val (.int x1), .val (.int x2), .val (.int x3), .val (.int x4), .val (.int x5), .val (.ref r3), .val (.ref r6), .val (.ref r9), .val (.int (x3 ^^^ (-1 : Int32))), .val (.int (1 : Int32)), .val (.ref r128), .val (.ref a183), .val (.ref r207), .val (.ref r128), .unset]) (hb hby at_95) rfl rfl rfl ?_
        refine go_aload (pc' := 99) (hb hby at_97) rfl rfl rfl ?_
        refine go_nnT (pc' := 115) (hb hby at_99) (by decide) rfl ?_
        refine go_aload (pc' := 117) (hb hby at_115) rfl rfl rfl ?_
        refine go_aload (pc' := 119) (hb hby at_117) rfl rfl rfl ?_
        have K218 : Keep h126 h182 [] := ((Keep.refl h126 []).ext X185)
        have K219 : Keep h126 h196 [] := (K218.trans K197 (allS (Or.inr (Nat.le_of_eq g184)) all0))
        have K220 : Keep h126 h205 [] := (K219.trans K206 all0)
        have E221 := (f129.keep K220)
        refine callV0 (cells' := 16) (slots' := 198) (Wd := 0) (argsL := [(.ref r128)]) (rest := []) (pay_of (a0 := a0) (c_eqsame l G r128 h205 O215 ) (wk G 85 rfl) (wk G 21 rfl) (by decide) (by decide)) E221 (wk G 81 rfl) (wk G 82 rfl) (wk G 84 rfl) (wk G 84 rfl) (wk G 83 rfl) (by decide) pd19 rfl rfl (by rw [hml]; rfl) (Nat.le_of_ble_eq_true rfl) rfl rfl (by decide) (by decide) all0 (fun _ _ => sf0) (hb hby at_119) (k_v (pc' := 122) rfl ?_)
        rintro _ h222 ⟨rfl, rfl⟩ K223
        refine go_istore (pc' := 124) (ls' := #[.val (.int x0), .val (.int x1), .val (.int x2), .val (.int x3), .val (.int x4), .val (.int x5), .val (.ref r3), .val (.ref r6), .val (.ref r9), .val (.int (x3 ^^^ (-1 : Int32))), .val (.int (1 : Int32)), .val (.ref r128), .val (.ref a183), .val (.ref r207), .val (.ref r128), .val (.int (1 : Int32))]) (hb hby at_122) rfl rfl ?_
        refine go_aload (pc' := 126) (hb hby at_124) rfl rfl rfl ?_
        refine callV0 (cells' := 16) (slots' := 198) (Wd := 0) (argsL := []) (rest := []) (pay_of (a0 := a0) (c_propagation l G r207 r3 h205 O215 f210) (wk G 90 rfl) (wk G 43 rfl) (by decide) (by decide)) f209 (wk G 86 rfl) (wk G 87 rfl) (wk G 89 rfl) (wk G 89 rfl) (wk G 88 rfl) (by decide) pd15 rfl rfl (by rw [hml]; rfl) (Nat.le_of_ble_eq_true rfl) rfl rfl (by decide) (by decide) all0 (fun _ _ => sf0) (hb hby at_126) (k_v (pc' := 129) rfl ?_)
        rintro _ h224 ⟨rfl, rfl⟩ K225
        refine go_aload (pc' := 131) (hb hby at_129) rfl rfl rfl ?_
        refine go_acF (pc' := 134) (hb hby at_131) rfl rfl rfl (XT.aa_ne_f rfl) ?_
        refine go_aload (pc' := 136) (hb hby at_134) rfl rfl rfl ?_
        refine callV0 (cells' := 16) (slots' := 198) (Wd := 0) (argsL := []) (rest := []) (pay_of (a0 := a0) (c_isolation l G r207 r9 h205 O215 f211) (wk G 95 rfl) (wk G 43 rfl) (by decide) (by decide)) f209 (wk G 91 rfl) (wk G 92 rfl) (wk G 94 rfl) (wk G 94 rfl) (wk G 93 rfl) (by decide) pd16 rfl rfl (by rw [hml]; rfl) (Nat.le_of_ble_eq_true rfl) rfl rfl (by decide) (by decide) all0 (fun _ _ => sf0) (hb hby at_136) (k_v (pc' := 139) rfl ?_)
        rintro _ h226 ⟨rfl, rfl⟩ K227
        refine go_aload (pc' := 141) (hb hby at_139) rfl rfl rfl ?_
        refine go_acF (pc' := 144) (hb hby at_141) rfl rfl rfl (XT.aa_ne_f rfl) ?_
        refine go_aload (pc' := 146) (hb hby at_144) rfl rfl rfl ?_
        refine callV0 (cells' := 16) (slots' := 198) (Wd := 0) (argsL := []) (rest := []) (pay_of (a0 := a0) (c_timeout l G r207 (x3 ^^^ (-1 : Int32)) h205 O215 f212) (wk G 100 rfl) (wk G 43 rfl) (by decide) (by decide)) f209 (wk G 96 rfl) (wk G 97 rfl) (wk G 99 rfl) (wk G 99 rfl) (wk G 98 rfl) (by decide) pd17 rfl rfl (by rw [hml]; rfl) (Nat.le_of_ble_eq_true rfl) rfl rfl (by decide) (by decide) all0 (fun _ _ => sf0) (hb hby at_146) (k_v (pc' := 149) rfl ?_)
        rintro _ h228 ⟨rfl, rfl⟩ K229
        refine go_iload (pc' := 151) (hb hby at_149) rfl rfl ?_
        refine go_icF (pc' := 154) (hb hby at_151) rfl (XT.ii_ne_f rfl) ?_
        refine go_aload (pc' := 156) (hb hby at_154) rfl rfl rfl ?_
        refine callV0 (cells' := 16) (slots' := 198) (Wd := 0) (argsL := []) (rest := []) (pay_of (a0 := a0) (c_readonly l G r207 (1 : Int32) h205 O215 f213 (⟨rfl, by decide⟩)) (wk G 105 rfl) (wk G 43 rfl) (by decide) (by decide)) f209 (wk G 101 rfl) (wk G 102 rfl) (wk G 104 rfl) (wk G 104 rfl) (wk G 103 rfl) (by decide) pd18 rfl rfl (by rw [hml]; rfl) (Nat.le_of_ble_eq_true rfl) rfl rfl (by decide) (by decide) all0 (fun _ _ => sf0) (hb hby at_156) (k_v (pc' := 159) rfl ?_)
        rintro _ h230 ⟨rfl, rfl⟩ K231
        refine go_iload (pc' := 161) (hb hby at_159) rfl rfl ?_
        refine go_icF (pc' := 164) (hb hby at_161) rfl (by decide) ?_
        refine go_iload (pc' := 166) (hb hby at_164) rfl rfl ?_
        refine go_ifF (pc' := 169) (hb hby at_166) rfl (by decide) ?_
        refine go_aload (pc' := 171) (hb hby at_169) rfl rfl rfl ?_
        have K232 : Keep h196 h205 [] := ((Keep.refl h196 []).trans K206 all0)
        have F233 := (f199.keep K232 nin0)
        have E234 := (E204.keep K232)
        refine callV0 (cells' := 16) (slots' := 198) (Wd := 0) (argsL := []) (rest := []) (pay_of (a0 := a0) (c_isolation l G a183 r6 h205 O215 F233) (wk G 95 rfl) (wk G 43 rfl) (by decide) (by decide)) E234 (wk G 91 rfl) (wk G 92 rfl) (wk G 94 rfl) (wk G 94 rfl) (wk G 93 rfl) (by decide) pd16 rfl rfl (by rw [hml]; rfl) (Nat.le_of_ble_eq_true rfl) rfl rfl (by decide) (by decide) all0 (fun _ _ => sf0) (hb hby at_171) (k_v (pc' := 174) rfl ?_)
        rintro _ h235 ⟨rfl, rfl⟩ K236
        refine go_aload (pc' := 176) (hb hby at_174) rfl rfl rfl ?_
        refine go_acF (pc' := 179) (hb hby at_176) rfl rfl rfl (XT.aa_ne_f rfl) ?_
        refine go_iconst (pc' := 180) (v := 1) (hb hby at_179) rfl rfl ?_
        refine go_goto (pc' := 184) (hb hby at_180) (by decide) rfl ?_
        have K237 : Keep h0 h182 [] := (K189.ext X185)
        have K238 : Keep h0 h196 [] := (K237.trans K197 (allS (Or.inr (Nat.le_trans K189.1 (Nat.le_of_eq g184))) all0))
        have K239 : Keep h0 h205 [] := (K238.trans K206 all0)
        refine go_ireturn hret hlk rfl (by simp) (hb hby at_184) (by decide) (by decide) ⟨_, rfl, rfl⟩ K239
  · refine go_icT (pc' := 29) (hb hby at_20) (by decide) rfl (XT.ii_ge_t c10) ?_
    refine go_iload_n (pc' := 30) (hb hby at_29) rfl rfl ?_
    refine go_istore (pc' := 32) (ls' := #[.val (.int x0), .val (.int x1), .val (.int x2), .val (.int x3), .val (.int x4), .val (.int x5), .val (.ref r3), .val (.ref r6), .val (.ref r9), .val (.int x3), .unset, .unset, .unset, .unset, .unset, .unset]) (hb hby at_30) rfl rfl ?_
    refine go_iload (pc' := 34) (hb hby at_32) rfl rfl ?_
    refine go_iconst (pc' := 35) (v := 1) (hb hby at_34) rfl rfl ?_
    refine go_iand (pc' := 36) (z := (x4 &&& (1 : Int32))) (hb hby at_35) rfl rfl ?_
    by_cases c240 : (x4 &&& (1 : Int32)) = (0 : Int32)
    · refine go_ifT (pc' := 43) (hb hby at_36) (by decide) rfl (XT.i0_eq_t c240) ?_
      refine go_iconst (pc' := 44) (v := 0) (hb hby at_43) rfl rfl ?_
      refine go_istore (pc' := 46) (ls' := #[.val (.int x0), .val (.int x1), .val (.int x2), .val (.int x3), .val (.int x4), .val (.int x5), .val (.ref r3), .val (.ref r6), .val (.ref r9), .val (.int x3), .val (.int (0 : Int32)), .unset, .unset, .unset, .unset, .unset]) (hb hby at_44) rfl rfl ?_
      refine go_iload (pc' := 48) (hb hby at_46) rfl rfl ?_
      refine go_iload (pc' := 50) (hb hby at_48) rfl rfl ?_
      refine callSW0 rfl (cells' := 6) (slots' := 12) (Wd := 0) (argsL := [(.int x4), (.int x5)]) (rest := []) (payW_of (a0 := a0) (c_mkname l G x4 x5 h0 O0 ) (wk G 18 rfl) (wk G 2 rfl) (by decide) (by decide) (ew1 G)) (wk G 16 rfl) (wk G 17 rfl) (wk G 2 rfl) (wk G 18 rfl) (by decide) pd12 rfl rfl (by rw [hml]; rfl) (Nat.le_of_ble_eq_true rfl) rfl rfl (by decide) (by decide) all0 (hb hby at_50) (k_v (pc' := 53) rfl ?_)
      rintro _ h241 (rfl | ⟨r243, rfl, f244⟩) K242
      · refine go_astore (pc' := 55) (ls' := #[.val (.int x0), .val (.int x1), .val (.int x2), .val (.int x3), .val (.int x4), .val (.int x5), .val (.ref r3), .val (.ref r6), .val (.ref r9), .val (.int x3), .val (.int (0 : Int32)), .val .null, .unset, .unset, .unset, .unset]) (hb hby at_53) rfl rfl rfl ?_
        refine go_newO (pc' := 58) (cells' := 7) (slots' := 17) (wk G 41 rfl) (wk G 42 rfl) (wk G 43 rfl) (hb hby at_55) rfl rfl rfl (by decide) (by decide) (fun h245 a246 g247 X248 E249 D250 U251 => ?_)
        refine go_dup (pc' := 59) (hb hby at_58) rfl rfl ?_
        refine go_aload (pc' := 61) (hb hby at_59) rfl rfl rfl ?_
        refine go_aload (pc' := 63) (hb hby at_61) rfl rfl rfl ?_
        refine go_iload (pc' := 65) (hb hby at_63) rfl rfl ?_
        refine go_iload (pc' := 67) (hb hby at_65) rfl rfl ?_
        refine go_aload (pc' := 69) (hb hby at_67) rfl rfl rfl ?_
        have K252 : Keep h0 h241 [] := ((Keep.refl h0 []).trans K242 all0)
        have F253 := D250 (Or.inr (wk G 60 rfl)) (ty := (.object "com/example/commitwise/commitwise/Propagation")) (by decide)
        have F254 := D250 (Or.inr (wk G 62 rfl)) (ty := (.object "com/example/commitwise/commitwise/Isolation")) (by decide)
        have F255 := D250 (Or.inr (wk G 64 rfl)) (ty := .int) (by decide)
        have F256 := D250 (Or.inr (wk G 66 rfl)) (ty := .boolean) (by decide)
        have F257 := D250 (Or.inr (wk G 68 rfl)) (ty := (.object "java/lang/String")) (by decide)
        refine go_old (fun O258 => ?_)
        refine callIW0 rfl (cells' := 11) (slots' := 105) (Wd := 1) (argsL := [(.ref r3), (.ref r6), (.int x3), (.int (0 : Int32)), .null]) (rest := [(.ref a246)]) (payW_of (a0 := a0) (c_tdinit l G a246 r3 r6 x3 (0 : Int32) .null h245 O258 E249 (Nat.le_trans O0.2.1 (Nat.le_trans K252.1 (Nat.le_of_eq g247))) c10 (⟨rfl, by decide⟩) rfl F253 F254 F255 F256 F257) (wk G 46 rfl) (wk G 43 rfl) (by decide) (by decide) (ew1 G)) rfl (wk G 44 rfl) (wk G 45 rfl) (wk G 46 rfl) (by decide) pd7 rfl rfl (by rw [hml]; rfl) (Nat.le_of_ble_eq_true rfl) rfl rfl (by decide) (by decide) (allS (Nat.le_trans O0.2.1 (Nat.le_trans K252.1 (Nat.le_of_eq g247))) all0) (hb hby at_69) (k_n (pc' := 72) rfl ?_)
        rintro  h259 ⟨f261, f262, f263, f264, f265⟩ K260
        refine go_astore (pc' := 74) (ls' := #[.val (.int x0), .val (.int x1), .val (.int x2), .val (.int x3), .val (.int x4), .val (.int x5), .val (.ref r3), .val (.ref r6), .val (.ref r9), .val (.int x3), .val (.int (0 : Int32)), .val .null, .val (.ref a246), .unset, .unset, .unset]) (hb hby at_72) rfl rfl rfl ?_
        refine go_aload (pc' := 76) (hb hby at_74) rfl rfl rfl ?_
        refine go_aload (pc' := 78) (hb hby at_76) rfl rfl rfl ?_
        refine go_old (fun O266 => ?_)
        have E267 := (E249.keep K260)
        refine callVW0 rfl (cells' := 16) (slots' := 198) (Wd := 0) (argsL := [(.ref r9)]) (rest := []) (payW_of (a0 := a0) (c_withiso l G a246 r9 r3 r6 x3 (0 : Int32) .null h259 O266 f261 f262 f263 f264 f265 c10 (⟨rfl, by decide⟩) rfl) (wk G 73 rfl) (wk G 43 rfl) (by decide) (by decide) (ew1 G)) E267 (wk G 69 rfl) (wk G 70 rfl) (wk G 72 rfl) (wk G 72 rfl) (wk G 71 rfl) (by decide) pd13 rfl rfl (by rw [hml]; rfl) (Nat.le_of_ble_eq_true rfl) rfl rfl (by decide) (by decide) all0 (hb hby at_78) (k_v (pc' := 81) rfl ?_)
        rintro _ h268 ⟨r270, rfl, f271, f272, f273, f274, f275, f276, f277⟩ K269
        refine go_astore (pc' := 83) (ls' := #[.val (.int x0), .val (.int x1), .val (.int x2), .val (.int x3), .val (.int x4), .val (.int x5), .val (.ref r3), .val (.ref r6), .val (.ref r9), .val (.int x3), .val (.int (0 : Int32)), .val .null, .val (.ref a246), .val (.ref r270), .unset, .unset]) (hb hby at_81) rfl rfl rfl ?_
        refine go_aload (pc' := 85) (hb hby at_83) rfl rfl rfl ?_
        refine go_nnT (pc' := 90) (hb hby at_85) (by decide) rfl ?_
        refine go_aload (pc' := 92) (hb hby at_90) rfl rfl rfl ?_
        refine go_old (fun O278 => ?_)
        refine callV0 (cells' := 16) (slots' := 198) (Wd := 0) (argsL := []) (rest := []) (pay_of (a0 := a0) (c_name l G r270 .null h268 O278 f277 rfl) (wk G 80 rfl) (wk G 43 rfl) (by decide) (by decide)) f272 (wk G 76 rfl) (wk G 77 rfl) (wk G 79 rfl) (wk G 79 rfl) (wk G 78 rfl) (by decide) pd14 rfl rfl (by rw [hml]; rfl) (Nat.le_of_ble_eq_true rfl) rfl rfl (by decide) (by decide) all0 (fun _ _ => sf0) (hb hby at_92) (k_v (pc' := 95) rfl ?_)
        rintro _ h279 ⟨rfl, rfl⟩ K280
        refine go_astore (pc' := 97) (ls' := #[.val (.int x0), .val (.int x1), .val (.int x2), .val (.int x3), .val (.int x4), .val (.int x5), .val (.ref r3), .val (.ref r6), .val (.ref r9), .val (.int x3), .val (.int (0 : Int32)), .val .null, .val (.ref a246), .val (.ref r270), .val .null, .unset]) (hb hby at_95) rfl rfl rfl ?_
        refine go_aload (pc' := 99) (hb hby at_97) rfl rfl rfl ?_
        refine go_nnF (pc' := 102) (hb hby at_99) rfl ?_
        refine go_aload (pc' := 104) (hb hby at_102) rfl rfl rfl ?_
        refine go_nnF (pc' := 107) (hb hby at_104) rfl ?_
        refine go_iconst (pc' := 108) (v := 1) (hb hby at_107) rfl rfl ?_
        refine go_goto (pc' := 122) (hb hby at_108) (by decide) rfl ?_
        refine go_istore (pc' := 124) (ls' := #[.val (.int x0), .val (.int x1), .val (.int x2), .val (.int x3), .val (.int x4), .val (.int x5), .val (.ref r3), .val (.ref r6), .val (.ref r9), .val (.int x3), .val (.int (0 : Int32)), .val .null, .val (.ref a246), .val (.ref r270), .val .null, .val (.int (1 : Int32))]) (hb hby at_122) rfl rfl ?_
        refine go_aload (pc' := 126) (hb hby at_124) rfl rfl rfl ?_
        refine callV0 (cells' := 16) (slots' := 198) (Wd := 0) (argsL := []) (rest := []) (pay_of (a0 := a0) (c_propagation l G r270 r3 h268 O278 f273) (wk G 90 rfl) (wk G 43 rfl) (by decide) (by decide)) f272 (wk G 86 rfl) (wk G 87 rfl) (wk G 89 rfl) (wk G 89 rfl) (wk G 88 rfl) (by decide) pd15 rfl rfl (by rw [hml]; rfl) (Nat.le_of_ble_eq_true rfl) rfl rfl (by decide) (by decide) all0 (fun _ _ => sf0) (hb hby at_126) (k_v (pc' := 129) rfl ?_)
        rintro _ h281 ⟨rfl, rfl⟩ K282
        refine go_aload (pc' := 131) (hb hby at_129) rfl rfl rfl ?_
        refine go_acF (pc' := 134) (hb hby at_131) rfl rfl rfl (XT.aa_ne_f rfl) ?_
        refine go_aload (pc' := 136) (hb hby at_134) rfl rfl rfl ?_
        refine callV0 (cells' := 16) (slots' := 198) (Wd := 0) (argsL := []) (rest := []) (pay_of (a0 := a0) (c_isolation l G r270 r9 h268 O278 f274) (wk G 95 rfl) (wk G 43 rfl) (by decide) (by decide)) f272 (wk G 91 rfl) (wk G 92 rfl) (wk G 94 rfl) (wk G 94 rfl) (wk G 93 rfl) (by decide) pd16 rfl rfl (by rw [hml]; rfl) (Nat.le_of_ble_eq_true rfl) rfl rfl (by decide) (by decide) all0 (fun _ _ => sf0) (hb hby at_136) (k_v (pc' := 139) rfl ?_)
        rintro _ h283 ⟨rfl, rfl⟩ K284
        refine go_aload (pc' := 141) (hb hby at_139) rfl rfl rfl ?_
        refine go_acF (pc' := 144) (hb hby at_141) rfl rfl rfl (XT.aa_ne_f rfl) ?_
        refine go_aload (pc' := 146) (hb hby at_144) rfl rfl rfl ?_
        refine callV0 (cells' := 16) (slots' := 198) (Wd := 0) (argsL := []) (rest := []) (pay_of (a0 := a0) (c_timeout l G r270 x3 h268 O278 f275) (wk G 100 rfl) (wk G 43 rfl) (by decide) (by decide)) f272 (wk G 96 rfl) (wk G 97 rfl) (wk G 99 rfl) (wk G 99 rfl) (wk G 98 rfl) (by decide) pd17 rfl rfl (by rw [hml]; rfl) (Nat.le_of_ble_eq_true rfl) rfl rfl (by decide) (by decide) all0 (fun _ _ => sf0) (hb hby at_146) (k_v (pc' := 149) rfl ?_)
        rintro _ h285 ⟨rfl, rfl⟩ K286
        refine go_iload (pc' := 151) (hb hby at_149) rfl rfl ?_
        refine go_icF (pc' := 154) (hb hby at_151) rfl (XT.ii_ne_f rfl) ?_
        refine go_aload (pc' := 156) (hb hby at_154) rfl rfl rfl ?_
        refine callV0 (cells' := 16) (slots' := 198) (Wd := 0) (argsL := []) (rest := []) (pay_of (a0 := a0) (c_readonly l G r270 (0 : Int32) h268 O278 f276 (⟨rfl, by decide⟩)) (wk G 105 rfl) (wk G 43 rfl) (by decide) (by decide)) f272 (wk G 101 rfl) (wk G 102 rfl) (wk G 104 rfl) (wk G 104 rfl) (wk G 103 rfl) (by decide) pd18 rfl rfl (by rw [hml]; rfl) (Nat.le_of_ble_eq_true rfl) rfl rfl (by decide) (by decide) all0 (fun _ _ => sf0) (hb hby at_156) (k_v (pc' := 159) rfl ?_)
        rintro _ h287 ⟨rfl, rfl⟩ K288
        refine go_iload (pc' := 161) (hb hby at_159) rfl rfl ?_
        refine go_icF (pc' := 164) (hb hby at_161) rfl (by decide) ?_
        refine go_iload (pc' := 166) (hb hby at_164) rfl rfl ?_
        refine go_ifF (pc' := 169) (hb hby at_166) rfl (by decide) ?_
        refine go_aload (pc' := 171) (hb hby at_169) rfl rfl rfl ?_
        have K289 : Keep h259 h268 [] := ((Keep.refl h259 []).trans K269 all0)
        have F290 := (f262.keep K289 nin0)
        have E291 := (E267.keep K289)
        refine callV0 (cells' := 16) (slots' := 198) (Wd := 0) (argsL := []) (rest := []) (pay_of (a0 := a0) (c_isolation l G a246 r6 h268 O278 F290) (wk G 95 rfl) (wk G 43 rfl) (by decide) (by decide)) E291 (wk G 91 rfl) (wk G 92 rfl) (wk G 94 rfl) (wk G 94 rfl) (wk G 93 rfl) (by decide) pd16 rfl rfl (by rw [hml]; rfl) (Nat.le_of_ble_eq_true rfl) rfl rfl (by decide) (by decide) all0 (fun _ _ => sf0) (hb hby at_171) (k_v (pc' := 174) rfl ?_)
        rintro _ h292 ⟨rfl, rfl⟩ K293
        refine go_aload (pc' := 176) (hb hby at_174) rfl rfl rfl ?_
        refine go_acF (pc' := 179) (hb hby at_176) rfl rfl rfl (XT.aa_ne_f rfl) ?_
        refine go_iconst (pc' := 180) (v := 1) (hb hby at_179) rfl rfl ?_
        refine go_goto (pc' := 184) (hb hby at_180) (by decide) rfl ?_
        have K294 : Keep h0 h245 [] := (K252.ext X248)
        have K295 : Keep h0 h259 [] := (K294.trans K260 (allS (Or.inr (Nat.le_trans K252.1 (Nat.le_of_eq g247))) all0))
        have K296 : Keep h0 h268 [] := (K295.trans K269 all0)
        refine go_ireturn hret hlk rfl (by simp) (hb hby at_184) (by decide) (by decide) ⟨_, rfl, rfl⟩ K296
      · refine go_astore (pc' := 55) (ls' := #[.val (.int x0), .val (.int x1), .val (.int x2), .val (.int x3), .val (.int x4), .val (.int x5), .val (.ref r3), .val (.ref r6), .val (.ref r9), .val (.int x3), .val (.int (0 : Int32)), .val (.ref r243), .unset, .unset, .unset, .unset]) (hb hby at_53) rfl rfl rfl ?_
        refine go_newO (pc' := 58) (cells' := 7) (slots' := 17) (wk G 41 rfl) (wk G 42 rfl) (wk G 43 rfl) (hb hby at_55) rfl rfl rfl (by decide) (by decide) (fun h297 a298 g299 X300 E301 D302 U303 => ?_)
        refine go_dup (pc' := 59) (hb hby at_58) rfl rfl ?_
        refine go_aload (pc' := 61) (hb hby at_59) rfl rfl rfl ?_
        refine go_aload (pc' := 63) (hb hby at_61) rfl rfl rfl ?_
        refine go_iload (pc' := 65) (hb hby at_63) rfl rfl ?_
        refine go_iload (pc' := 67) (hb hby at_65) rfl rfl ?_
        refine go_aload (pc' := 69) (hb hby at_67) rfl rfl rfl ?_
        have K304 : Keep h0 h241 [] := ((Keep.refl h0 []).trans K242 all0)
        have F305 := D302 (Or.inr (wk G 60 rfl)) (ty := (.object "com/example/commitwise/commitwise/Propagation")) (by decide)
        have F306 := D302 (Or.inr (wk G 62 rfl)) (ty := (.object "com/example/commitwise/commitwise/Isolation")) (by decide)
        have F307 := D302 (Or.inr (wk G 64 rfl)) (ty := .int) (by decide)
        have F308 := D302 (Or.inr (wk G 66 rfl)) (ty := .boolean) (by decide)
        have F309 := D302 (Or.inr (wk G 68 rfl)) (ty := (.object "java/lang/String")) (by decide)
        refine go_old (fun O310 => ?_)
        refine callIW0 rfl (cells' := 11) (slots' := 105) (Wd := 1) (argsL := [(.ref r3), (.ref r6), (.int x3), (.int (0 : Int32)), (.ref r243)]) (rest := [(.ref a298)]) (payW_of (a0 := a0) (c_tdinit l G a298 r3 r6 x3 (0 : Int32) (.ref r243) h297 O310 E301 (Nat.le_trans O0.2.1 (Nat.le_trans K304.1 (Nat.le_of_eq g299))) c10 (⟨rfl, by decide⟩) rfl F305 F306 F307 F308 F309) (wk G 46 rfl) (wk G 43 rfl) (by decide) (by decide) (ew1 G)) rfl (wk G 44 rfl) (wk G 45 rfl) (wk G 46 rfl) (by decide) pd7 rfl rfl (by rw [hml]; rfl) (Nat.le_of_ble_eq_true rfl) rfl rfl (by decide) (by decide) (allS (Nat.le_trans O0.2.1 (Nat.le_trans K304.1 (Nat.le_of_eq g299))) all0) (hb hby at_69) (k_n (pc' := 72) rfl ?_)
        rintro  h311 ⟨f313, f314, f315, f316, f317⟩ K312
        refine go_astore (pc' := 74) (ls' := #[.val (.int x0), .val (.int x1), .val (.int x2), .val (.int x3), .val (.int x4), .val (.int x5), .val (.ref r3), .val (.ref r6), .val (.ref r9), .val (.int x3), .val (.int (0 : Int32)), .val (.ref r243), .val (.ref a298), .unset, .unset, .unset]) (hb hby at_72) rfl rfl rfl ?_
        refine go_aload (pc' := 76) (hb hby at_74) rfl rfl rfl ?_
        refine go_aload (pc' := 78) (hb hby at_76) rfl rfl rfl ?_
        refine go_old (fun O318 => ?_)
        have E319 := (E301.keep K312)
        refine callVW0 rfl (cells' := 16) (slots' := 198) (Wd := 0) (argsL := [(.ref r9)]) (rest := []) (payW_of (a0 := a0) (c_withiso l G a298 r9 r3 r6 x3 (0 : Int32) (.ref r243) h311 O318 f313 f314 f315 f316 f317 c10 (⟨rfl, by decide⟩) rfl) (wk G 73 rfl) (wk G 43 rfl) (by decide) (by decide) (ew1 G)) E319 (wk G 69 rfl) (wk G 70 rfl) (wk G 72 rfl) (wk G 72 rfl) (wk G 71 rfl) (by decide) pd13 rfl rfl (by rw [hml]; rfl) (Nat.le_of_ble_eq_true rfl) rfl rfl (by decide) (by decide) all0 (hb hby at_78) (k_v (pc' := 81) rfl ?_)
        rintro _ h320 ⟨r322, rfl, f323, f324, f325, f326, f327, f328, f329⟩ K321
        refine go_astore (pc' := 83) (ls' := #[.val (.int x0), .val (.int x1), .val (.int x2), .val (.int x3), .val (.int x4), .val (.int x5), .val (.ref r3), .val (.ref r6), .val (.ref r9), .val (.int x3), .val (.int (0 : Int32)), .val (.ref r243), .val (.ref a298), .val (.ref r322), .unset, .unset]) (hb hby at_81) rfl rfl rfl ?_
        refine go_aload (pc' := 85) (hb hby at_83) rfl rfl rfl ?_
        refine go_nnT (pc' := 90) (hb hby at_85) (by decide) rfl ?_
        refine go_aload (pc' := 92) (hb hby at_90) rfl rfl rfl ?_
        refine go_old (fun O330 => ?_)
        refine callV0 (cells' := 16) (slots' := 198) (Wd := 0) (argsL := []) (rest := []) (pay_of (a0 := a0) (c_name l G r322 (.ref r243) h320 O330 f329 rfl) (wk G 80 rfl) (wk G 43 rfl) (by decide) (by decide)) f324 (wk G 76 rfl) (wk G 77 rfl) (wk G 79 rfl) (wk G 79 rfl) (wk G 78 rfl) (by decide) pd14 rfl rfl (by rw [hml]; rfl) (Nat.le_of_ble_eq_true rfl) rfl rfl (by decide) (by decide) all0 (fun _ _ => sf0) (hb hby at_92) (k_v (pc' := 95) rfl ?_)
        rintro _ h331 ⟨rfl, rfl⟩ K332
        refine go_astore (pc' := 97) (ls' := #[.val (.int x0), .val (.int x1), .val (.int x2), .val (.int x3), .val (.int x4), .val (.int x5), .val (.ref r3), .val (.ref r6), .val (.ref r9), .val (.int x3), .val (.int (0 : Int32)), .val (.ref r243), .val (.ref a298), .val (.ref r322), .val (.ref r243), .unset]) (hb hby at_95) rfl rfl rfl ?_
        refine go_aload (pc' := 99) (hb hby at_97) rfl rfl rfl ?_
        refine go_nnT (pc' := 115) (hb hby at_99) (by decide) rfl ?_
        refine go_aload (pc' := 117) (hb hby at_115) rfl rfl rfl ?_
        refine go_aload (pc' := 119) (hb hby at_117) rfl rfl rfl ?_
        have K333 : Keep h241 h297 [] := ((Keep.refl h241 []).ext X300)
        have K334 : Keep h241 h311 [] := (K333.trans K312 (allS (Or.inr (Nat.le_of_eq g299)) all0))
        have K335 : Keep h241 h320 [] := (K334.trans K321 all0)
        have E336 := (f244.keep K335)
        refine callV0 (cells' := 16) (slots' := 198) (Wd := 0) (argsL := [(.ref r243)]) (rest := []) (pay_of (a0 := a0) (c_eqsame l G r243 h320 O330 ) (wk G 85 rfl) (wk G 21 rfl) (by decide) (by decide)) E336 (wk G 81 rfl) (wk G 82 rfl) (wk G 84 rfl) (wk G 84 rfl) (wk G 83 rfl) (by decide) pd19 rfl rfl (by rw [hml]; rfl) (Nat.le_of_ble_eq_true rfl) rfl rfl (by decide) (by decide) all0 (fun _ _ => sf0) (hb hby at_119) (k_v (pc' := 122) rfl ?_)
        rintro _ h337 ⟨rfl, rfl⟩ K338
        refine go_istore (pc' := 124) (ls' := #[.val (.int x0), .val (.int x1), .val (.int x2), .val (.int x3), .val (.int x4), .val (.int x5), .val (.ref r3), .val (.ref r6), .val (.ref r9), .val (.int x3), .val (.int (0 : Int32)), .val (.ref r243), .val (.ref a298), .val (.ref r322), .val (.ref r243), .val (.int (1 : Int32))]) (hb hby at_122) rfl rfl ?_
        refine go_aload (pc' := 126) (hb hby at_124) rfl rfl rfl ?_
        refine callV0 (cells' := 16) (slots' := 198) (Wd := 0) (argsL := []) (rest := []) (pay_of (a0 := a0) (c_propagation l G r322 r3 h320 O330 f325) (wk G 90 rfl) (wk G 43 rfl) (by decide) (by decide)) f324 (wk G 86 rfl) (wk G 87 rfl) (wk G 89 rfl) (wk G 89 rfl) (wk G 88 rfl) (by decide) pd15 rfl rfl (by rw [hml]; rfl) (Nat.le_of_ble_eq_true rfl) rfl rfl (by decide) (by decide) all0 (fun _ _ => sf0) (hb hby at_126) (k_v (pc' := 129) rfl ?_)
        rintro _ h339 ⟨rfl, rfl⟩ K340
        refine go_aload (pc' := 131) (hb hby at_129) rfl rfl rfl ?_
        refine go_acF (pc' := 134) (hb hby at_131) rfl rfl rfl (XT.aa_ne_f rfl) ?_
        refine go_aload (pc' := 136) (hb hby at_134) rfl rfl rfl ?_
        refine callV0 (cells' := 16) (slots' := 198) (Wd := 0) (argsL := []) (rest := []) (pay_of (a0 := a0) (c_isolation l G r322 r9 h320 O330 f326) (wk G 95 rfl) (wk G 43 rfl) (by decide) (by decide)) f324 (wk G 91 rfl) (wk G 92 rfl) (wk G 94 rfl) (wk G 94 rfl) (wk G 93 rfl) (by decide) pd16 rfl rfl (by rw [hml]; rfl) (Nat.le_of_ble_eq_true rfl) rfl rfl (by decide) (by decide) all0 (fun _ _ => sf0) (hb hby at_136) (k_v (pc' := 139) rfl ?_)
        rintro _ h341 ⟨rfl, rfl⟩ K342
        refine go_aload (pc' := 141) (hb hby at_139) rfl rfl rfl ?_
        refine go_acF (pc' := 144) (hb hby at_141) rfl rfl rfl (XT.aa_ne_f rfl) ?_
        refine go_aload (pc' := 146) (hb hby at_144) rfl rfl rfl ?_
        refine callV0 (cells' := 16) (slots' := 198) (Wd := 0) (argsL := []) (rest := []) (pay_of (a0 := a0) (c_timeout l G r322 x3 h320 O330 f327) (wk G 100 rfl) (wk G 43 rfl) (by decide) (by decide)) f324 (wk G 96 rfl) (wk G 97 rfl) (wk G 99 rfl) (wk G 99 rfl) (wk G 98 rfl) (by decide) pd17 rfl rfl (by rw [hml]; rfl) (Nat.le_of_ble_eq_true rfl) rfl rfl (by decide) (by decide) all0 (fun _ _ => sf0) (hb hby at_146) (k_v (pc' := 149) rfl ?_)
        rintro _ h343 ⟨rfl, rfl⟩ K344
        refine go_iload (pc' := 151) (hb hby at_149) rfl rfl ?_
        refine go_icF (pc' := 154) (hb hby at_151) rfl (XT.ii_ne_f rfl) ?_
        refine go_aload (pc' := 156) (hb hby at_154) rfl rfl rfl ?_
        refine callV0 (cells' := 16) (slots' := 198) (Wd := 0) (argsL := []) (rest := []) (pay_of (a0 := a0) (c_readonly l G r322 (0 : Int32) h320 O330 f328 (⟨rfl, by decide⟩)) (wk G 105 rfl) (wk G 43 rfl) (by decide) (by decide)) f324 (wk G 101 rfl) (wk G 102 rfl) (wk G 104 rfl) (wk G 104 rfl) (wk G 103 rfl) (by decide) pd18 rfl rfl (by rw [hml]; rfl) (Nat.le_of_ble_eq_true rfl) rfl rfl (by decide) (by decide) all0 (fun _ _ => sf0) (hb hby at_156) (k_v (pc' := 159) rfl ?_)
        rintro _ h345 ⟨rfl, rfl⟩ K346
        refine go_iload (pc' := 161) (hb hby at_159) rfl rfl ?_
        refine go_icF (pc' := 164) (hb hby at_161) rfl (by decide) ?_
        refine go_iload (pc' := 166) (hb hby at_164) rfl rfl ?_
        refine go_ifF (pc' := 169) (hb hby at_166) rfl (by decide) ?_
        refine go_aload (pc' := 171) (hb hby at_169) rfl rfl rfl ?_
        have K347 : Keep h311 h320 [] := ((Keep.refl h311 []).trans K321 all0)
        have F348 := (f314.keep K347 nin0)
        have E349 := (E319.keep K347)
        refine callV0 (cells' := 16) (slots' := 198) (Wd := 0) (argsL := []) (rest := []) (pay_of (a0 := a0) (c_isolation l G a298 r6 h320 O330 F348) (wk G 95 rfl) (wk G 43 rfl) (by decide) (by decide)) E349 (wk G 91 rfl) (wk G 92 rfl) (wk G 94 rfl) (wk G 94 rfl) (wk G 93 rfl) (by decide) pd16 rfl rfl (by rw [hml]; rfl) (Nat.le_of_ble_eq_true rfl) rfl rfl (by decide) (by decide) all0 (fun _ _ => sf0) (hb hby at_171) (k_v (pc' := 174) rfl ?_)
        rintro _ h350 ⟨rfl, rfl⟩ K351
        refine go_aload (pc' := 176) (hb hby at_174) rfl rfl rfl ?_
        refine go_acF (pc' := 179) (hb hby at_176) rfl rfl rfl (XT.aa_ne_f rfl) ?_
        refine go_iconst (pc' := 180) (v := 1) (hb hby at_179) rfl rfl ?_
        refine go_goto (pc' := 184) (hb hby at_180) (by decide) rfl ?_
        have K352 : Keep h0 h297 [] := (K304.ext X300)
        have K353 : Keep h0 h311 [] := (K352.trans K312 (allS (Or.inr (Nat.le_trans K304.1 (Nat.le_of_eq g299))) all0))
        have K354 : Keep h0 h320 [] := (K353.trans K321 all0)
        refine go_ireturn hret hlk rfl (by simp) (hb hby at_184) (by decide) (by decide) ⟨_, rfl, rfl⟩ K354
    · refine go_ifF (pc' := 39) (hb hby at_36) rfl (XT.i0_eq_f c240) ?_
      refine go_iconst (pc' := 40) (v := 1) (hb hby at_39) rfl rfl ?_
      refine go_goto (pc' := 44) (hb hby at_40) (by decide) rfl ?_
      refine go_istore (pc' := 46) (ls' := #[.val (.int x0), .val (.int x1), .val (.int x2), .val (.int x3), .val (.int x4), .val (.int x5), .val (.ref r3), .val (.ref r6), .val (.ref r9), .val (.int x3), .val (.int (1 : Int32)), .unset, .unset, .unset, .unset, .unset]) (hb hby at_44) rfl rfl ?_
      refine go_iload (pc' := 48) (hb hby at_46) rfl rfl ?_
      refine go_iload (pc' := 50) (hb hby at_48) rfl rfl ?_
      refine callSW0 rfl (cells' := 6) (slots' := 12) (Wd := 0) (argsL := [(.int x4), (.int x5)]) (rest := []) (payW_of (a0 := a0) (c_mkname l G x4 x5 h0 O0 ) (wk G 18 rfl) (wk G 2 rfl) (by decide) (by decide) (ew1 G)) (wk G 16 rfl) (wk G 17 rfl) (wk G 2 rfl) (wk G 18 rfl) (by decide) pd12 rfl rfl (by rw [hml]; rfl) (Nat.le_of_ble_eq_true rfl) rfl rfl (by decide) (by decide) all0 (hb hby at_50) (k_v (pc' := 53) rfl ?_)
      rintro _ h355 (rfl | ⟨r357, rfl, f358⟩) K356
      · refine go_astore (pc' := 55) (ls' := #[.val (.int x0), .val (.int x1), .val (.int x2), .val (.int x3), .val (.int x4), .val (.int x5), .val (.ref r3), .val (.ref r6), .val (.ref r9), .val (.int x3), .val (.int (1 : Int32)), .val .null, .unset, .unset, .unset, .unset]) (hb hby at_53) rfl rfl rfl ?_
        refine go_newO (pc' := 58) (cells' := 7) (slots' := 17) (wk G 41 rfl) (wk G 42 rfl) (wk G 43 rfl) (hb hby at_55) rfl rfl rfl (by decide) (by decide) (fun h359 a360 g361 X362 E363 D364 U365 => ?_)
        refine go_dup (pc' := 59) (hb hby at_58) rfl rfl ?_
        refine go_aload (pc' := 61) (hb hby at_59) rfl rfl rfl ?_
        refine go_aload (pc' := 63) (hb hby at_61) rfl rfl rfl ?_
        refine go_iload (pc' := 65) (hb hby at_63) rfl rfl ?_
        refine go_iload (pc' := 67) (hb hby at_65) rfl rfl ?_
        refine go_aload (pc' := 69) (hb hby at_67) rfl rfl rfl ?_
        have K366 : Keep h0 h355 [] := ((Keep.refl h0 []).trans K356 all0)
        have F367 := D364 (Or.inr (wk G 60 rfl)) (ty := (.object "com/example/commitwise/commitwise/Propagation")) (by decide)
        have F368 := D364 (Or.inr (wk G 62 rfl)) (ty := (.object "com/example/commitwise/commitwise/Isolation")) (by decide)
        have F369 := D364 (Or.inr (wk G 64 rfl)) (ty := .int) (by decide)
        have F370 := D364 (Or.inr (wk G 66 rfl)) (ty := .boolean) (by decide)
        have F371 := D364 (Or.inr (wk G 68 rfl)) (ty := (.object "java/lang/String")) (by decide)
        refine go_old (fun O372 => ?_)
        refine callIW0 rfl (cells' := 11) (slots' := 105) (Wd := 1) (argsL := [(.ref r3), (.ref r6), (.int x3), (.int (1 : Int32)), .null]) (rest := [(.ref a360)]) (payW_of (a0 := a0) (c_tdinit l G a360 r3 r6 x3 (1 : Int32) .null h359 O372 E363 (Nat.le_trans O0.2.1 (Nat.le_trans K366.1 (Nat.le_of_eq g361))) c10 (⟨rfl, by decide⟩) rfl F367 F368 F369 F370 F371) (wk G 46 rfl) (wk G 43 rfl) (by decide) (by decide) (ew1 G)) rfl (wk G 44 rfl) (wk G 45 rfl) (wk G 46 rfl) (by decide) pd7 rfl rfl (by rw [hml]; rfl) (Nat.le_of_ble_eq_true rfl) rfl rfl (by decide) (by decide) (allS (Nat.le_trans O0.2.1 (Nat.le_trans K366.1 (Nat.le_of_eq g361))) all0) (hb hby at_69) (k_n (pc' := 72) rfl ?_)
        rintro  h373 ⟨f375, f376, f377, f378, f379⟩ K374
        refine go_astore (pc' := 74) (ls' := #[.val (.int x0), .val (.int x1), .val (.int x2), .val (.int x3), .val (.int x4), .val (.int x5), .val (.ref r3), .val (.ref r6), .val (.ref r9), .val (.int x3), .val (.int (1 : Int32)), .val .null, .val (.ref a360), .unset, .unset, .unset]) (hb hby at_72) rfl rfl rfl ?_
        refine go_aload (pc' := 76) (hb hby at_74) rfl rfl rfl ?_
        refine go_aload (pc' := 78) (hb hby at_76) rfl rfl rfl ?_
        refine go_old (fun O380 => ?_)
        have E381 := (E363.keep K374)
        refine callVW0 rfl (cells' := 16) (slots' := 198) (Wd := 0) (argsL := [(.ref r9)]) (rest := []) (payW_of (a0 := a0) (c_withiso l G a360 r9 r3 r6 x3 (1 : Int32) .null h373 O380 f375 f376 f377 f378 f379 c10 (⟨rfl, by decide⟩) rfl) (wk G 73 rfl) (wk G 43 rfl) (by decide) (by decide) (ew1 G)) E381 (wk G 69 rfl) (wk G 70 rfl) (wk G 72 rfl) (wk G 72 rfl) (wk G 71 rfl) (by decide) pd13 rfl rfl (by rw [hml]; rfl) (Nat.le_of_ble_eq_true rfl) rfl rfl (by decide) (by decide) all0 (hb hby at_78) (k_v (pc' := 81) rfl ?_)
        rintro _ h382 ⟨r384, rfl, f385, f386, f387, f388, f389, f390, f391⟩ K383
        refine go_astore (pc' := 83) (ls' := #[.val (.int x0), .val (.int x1), .val (.int x2), .val (.int x3), .val (.int x4), .val (.int x5), .val (.ref r3), .val (.ref r6), .val (.ref r9), .val (.int x3), .val (.int (1 : Int32)), .val .null, .val (.ref a360), .val (.ref r384), .unset, .unset]) (hb hby at_81) rfl rfl rfl ?_
        refine go_aload (pc' := 85) (hb hby at_83) rfl rfl rfl ?_
        refine go_nnT (pc' := 90) (hb hby at_85) (by decide) rfl ?_
        refine go_aload (pc' := 92) (hb hby at_90) rfl rfl rfl ?_
        refine go_old (fun O392 => ?_)
        refine callV0 (cells' := 16) (slots' := 198) (Wd := 0) (argsL := []) (rest := []) (pay_of (a0 := a0) (c_name l G r384 .null h382 O392 f391 rfl) (wk G 80 rfl) (wk G 43 rfl) (by decide) (by decide)) f386 (wk G 76 rfl) (wk G 77 rfl) (wk G 79 rfl) (wk G 79 rfl) (wk G 78 rfl) (by decide) pd14 rfl rfl (by rw [hml]; rfl) (Nat.le_of_ble_eq_true rfl) rfl rfl (by decide) (by decide) all0 (fun _ _ => sf0) (hb hby at_92) (k_v (pc' := 95) rfl ?_)
        rintro _ h393 ⟨rfl, rfl⟩ K394
        refine go_astore (pc' := 97) (ls' := #[.val (.int x0), .val (.int x1), .val (.int x2), .val (.int x3), .val (.int x4), .val (.int x5), .val (.ref r3), .val (.ref r6), .val (.ref r9), .val (.int x3), .val (.int (1 : Int32)), .val .null, .val (.ref a360), .val (.ref r384), .val .null, .unset]) (hb hby at_95) rfl rfl rfl ?_
        refine go_aload (pc' := 99) (hb hby at_97) rfl rfl rfl ?_
        refine go_nnF (pc' := 102) (hb hby at_99) rfl ?_
        refine go_aload (pc' := 104) (hb hby at_102) rfl rfl rfl ?_
        refine go_nnF (pc' := 107) (hb hby at_104) rfl ?_
        refine go_iconst (pc' := 108) (v := 1) (hb hby at_107) rfl rfl ?_
        refine go_goto (pc' := 122) (hb hby at_108) (by decide) rfl ?_
        refine go_istore (pc' := 124) (ls' := #[.val (.int x0), .val (.int x1), .val (.int x2), .val (.int x3), .val (.int x4), .val (.int x5), .val (.ref r3), .val (.ref r6), .val (.ref r9), .val (.int x3), .val (.int (1 : Int32)), .val .null, .val (.ref a360), .val (.ref r384), .val .null, .val (.int (1 : Int32))]) (hb hby at_122) rfl rfl ?_
        refine go_aload (pc' := 126) (hb hby at_124) rfl rfl rfl ?_
        refine callV0 (cells' := 16) (slots' := 198) (Wd := 0) (argsL := []) (rest := []) (pay_of (a0 := a0) (c_propagation l G r384 r3 h382 O392 f387) (wk G 90 rfl) (wk G 43 rfl) (by decide) (by decide)) f386 (wk G 86 rfl) (wk G 87 rfl) (wk G 89 rfl) (wk G 89 rfl) (wk G 88 rfl) (by decide) pd15 rfl rfl (by rw [hml]; rfl) (Nat.le_of_ble_eq_true rfl) rfl rfl (by decide) (by decide) all0 (fun _ _ => sf0) (hb hby at_126) (k_v (pc' := 129) rfl ?_)
        rintro _ h395 ⟨rfl, rfl⟩ K396
        refine go_aload (pc' := 131) (hb hby at_129) rfl rfl rfl ?_
        refine go_acF (pc' := 134) (hb hby at_131) rfl rfl rfl (XT.aa_ne_f rfl) ?_
        refine go_aload (pc' := 136) (hb hby at_134) rfl rfl rfl ?_
        refine callV0 (cells' := 16) (slots' := 198) (Wd := 0) (argsL := []) (rest := []) (pay_of (a0 := a0) (c_isolation l G r384 r9 h382 O392 f388) (wk G 95 rfl) (wk G 43 rfl) (by decide) (by decide)) f386 (wk G 91 rfl) (wk G 92 rfl) (wk G 94 rfl) (wk G 94 rfl) (wk G 93 rfl) (by decide) pd16 rfl rfl (by rw [hml]; rfl) (Nat.le_of_ble_eq_true rfl) rfl rfl (by decide) (by decide) all0 (fun _ _ => sf0) (hb hby at_136) (k_v (pc' := 139) rfl ?_)
        rintro _ h397 ⟨rfl, rfl⟩ K398
        refine go_aload (pc' := 141) (hb hby at_139) rfl rfl rfl ?_
        refine go_acF (pc' := 144) (hb hby at_141) rfl rfl rfl (XT.aa_ne_f rfl) ?_
        refine go_aload (pc' := 146) (hb hby at_144) rfl rfl rfl ?_
        refine callV0 (cells' := 16) (slots' := 198) (Wd := 0) (argsL := []) (rest := []) (pay_of (a0 := a0) (c_timeout l G r384 x3 h382 O392 f389) (wk G 100 rfl) (wk G 43 rfl) (by decide) (by decide)) f386 (wk G 96 rfl) (wk G 97 rfl) (wk G 99 rfl) (wk G 99 rfl) (wk G 98 rfl) (by decide) pd17 rfl rfl (by rw [hml]; rfl) (Nat.le_of_ble_eq_true rfl) rfl rfl (by decide) (by decide) all0 (fun _ _ => sf0) (hb hby at_146) (k_v (pc' := 149) rfl ?_)
        rintro _ h399 ⟨rfl, rfl⟩ K400
        refine go_iload (pc' := 151) (hb hby at_149) rfl rfl ?_
        refine go_icF (pc' := 154) (hb hby at_151) rfl (XT.ii_ne_f rfl) ?_
        refine go_aload (pc' := 156) (hb hby at_154) rfl rfl rfl ?_
        refine callV0 (cells' := 16) (slots' := 198) (Wd := 0) (argsL := []) (rest := []) (pay_of (a0 := a0) (c_readonly l G r384 (1 : Int32) h382 O392 f390 (⟨rfl, by decide⟩)) (wk G 105 rfl) (wk G 43 rfl) (by decide) (by decide)) f386 (wk G 101 rfl) (wk G 102 rfl) (wk G 104 rfl) (wk G 104 rfl) (wk G 103 rfl) (by decide) pd18 rfl rfl (by rw [hml]; rfl) (Nat.le_of_ble_eq_true rfl) rfl rfl (by decide) (by decide) all0 (fun _ _ => sf0) (hb hby at_156) (k_v (pc' := 159) rfl ?_)
        rintro _ h401 ⟨rfl, rfl⟩ K402
        refine go_iload (pc' := 161) (hb hby at_159) rfl rfl ?_
        refine go_icF (pc' := 164) (hb hby at_161) rfl (by decide) ?_
        refine go_iload (pc' := 166) (hb hby at_164) rfl rfl ?_
        refine go_ifF (pc' := 169) (hb hby at_166) rfl (by decide) ?_
        refine go_aload (pc' := 171) (hb hby at_169) rfl rfl rfl ?_
        have K403 : Keep h373 h382 [] := ((Keep.refl h373 []).trans K383 all0)
        have F404 := (f376.keep K403 nin0)
        have E405 := (E381.keep K403)
        refine callV0 (cells' := 16) (slots' := 198) (Wd := 0) (argsL := []) (rest := []) (pay_of (a0 := a0) (c_isolation l G a360 r6 h382 O392 F404) (wk G 95 rfl) (wk G 43 rfl) (by decide) (by decide)) E405 (wk G 91 rfl) (wk G 92 rfl) (wk G 94 rfl) (wk G 94 rfl) (wk G 93 rfl) (by decide) pd16 rfl rfl (by rw [hml]; rfl) (Nat.le_of_ble_eq_true rfl) rfl rfl (by decide) (by decide) all0 (fun _ _ => sf0) (hb hby at_171) (k_v (pc' := 174) rfl ?_)
        rintro _ h406 ⟨rfl, rfl⟩ K407
        refine go_aload (pc' := 176) (hb hby at_174) rfl rfl rfl ?_
        refine go_acF (pc' := 179) (hb hby at_176) rfl rfl rfl (XT.aa_ne_f rfl) ?_
        refine go_iconst (pc' := 180) (v := 1) (hb hby at_179) rfl rfl ?_
        refine go_goto (pc' := 184) (hb hby at_180) (by decide) rfl ?_
        have K408 : Keep h0 h359 [] := (K366.ext X362)
        have K409 : Keep h0 h373 [] := (K408.trans K374 (allS (Or.inr (Nat.le_trans K366.1 (Nat.le_of_eq g361))) all0))
        have K410 : Keep h0 h382 [] := (K409.trans K383 all0)
        refine go_ireturn hret hlk rfl (by simp) (hb hby at_184) (by decide) (by decide) ⟨_, rfl, rfl⟩ K410
      · refine go_astore (pc' := 55) (ls' := #[.val (.int x0), .val (.int x1), .val (.int x2), .val (.int x3), .val (.int x4), .val (.int x5), .val (.ref r3), .val (.ref r6), .val (.ref r9), .val (.int x3), .val (.int (1 : Int32)), .val (.ref r357), .unset, .unset, .unset, .unset]) (hb hby at_53) rfl rfl rfl ?_
        refine go_newO (pc' := 58) (cells' := 7) (slots' := 17) (wk G 41 rfl) (wk G 42 rfl) (wk G 43 rfl) (hb hby at_55) rfl rfl rfl (by decide) (by decide) (fun h411 a412 g413 X414 E415 D416 U417 => ?_)
        refine go_dup (pc' := 59) (hb hby at_58) rfl rfl ?_
        refine go_aload (pc' := 61) (hb hby at_59) rfl rfl rfl ?_
        refine go_aload (pc' := 63) (hb hby at_61) rfl rfl rfl ?_
        refine go_iload (pc' := 65) (hb hby at_63) rfl rfl ?_
        refine go_iload (pc' := 67) (hb hby at_65) rfl rfl ?_
        refine go_aload (pc' := 69) (hb hby at_67) rfl rfl rfl ?_
        have K418 : Keep h0 h355 [] := ((Keep.refl h0 []).trans K356 all0)
        have F419 := D416 (Or.inr (wk G 60 rfl)) (ty := (.object "com/example/commitwise/commitwise/Propagation")) (by decide)
        have F420 := D416 (Or.inr (wk G 62 rfl)) (ty := (.object "com/example/commitwise/commitwise/Isolation")) (by decide)
        have F421 := D416 (Or.inr (wk G 64 rfl)) (ty := .int) (by decide)
        have F422 := D416 (Or.inr (wk G 66 rfl)) (ty := .boolean) (by decide)
        have F423 := D416 (Or.inr (wk G 68 rfl)) (ty := (.object "java/lang/String")) (by decide)
        refine go_old (fun O424 => ?_)
        refine callIW0 rfl (cells' := 11) (slots' := 105) (Wd := 1) (argsL := [(.ref r3), (.ref r6), (.int x3), (.int (1 : Int32)), (.ref r357)]) (rest := [(.ref a412)]) (payW_of (a0 := a0) (c_tdinit l G a412 r3 r6 x3 (1 : Int32) (.ref r357) h411 O424 E415 (Nat.le_trans O0.2.1 (Nat.le_trans K418.1 (Nat.le_of_eq g413))) c10 (⟨rfl, by decide⟩) rfl F419 F420 F421 F422 F423) (wk G 46 rfl) (wk G 43 rfl) (by decide) (by decide) (ew1 G)) rfl (wk G 44 rfl) (wk G 45 rfl) (wk G 46 rfl) (by decide) pd7 rfl rfl (by rw [hml]; rfl) (Nat.le_of_ble_eq_true rfl) rfl rfl (by decide) (by decide) (allS (Nat.le_trans O0.2.1 (Nat.le_trans K418.1 (Nat.le_of_eq g413))) all0) (hb hby at_69) (k_n (pc' := 72) rfl ?_)
        rintro  h425 ⟨f427, f428, f429, f430, f431⟩ K426
        refine go_astore (pc' := 74) (ls' := #[.val (.int x0), .val (.int x1), .val (.int x2), .val (.int x3), .val (.int x4), .val (.int x5), .val (.ref r3), .val (.ref r6), .val (.ref r9), .val (.int x3), .val (.int (1 : Int32)), .val (.ref r357), .val (.ref a412), .unset, .unset, .unset]) (hb hby at_72) rfl rfl rfl ?_
        refine go_aload (pc' := 76) (hb hby at_74) rfl rfl rfl ?_
        refine go_aload (pc' := 78) (hb hby at_76) rfl rfl rfl ?_
        refine go_old (fun O432 => ?_)
        have E433 := (E415.keep K426)
        refine callVW0 rfl (cells' := 16) (slots' := 198) (Wd := 0) (argsL := [(.ref r9)]) (rest := []) (payW_of (a0 := a0) (c_withiso l G a412 r9 r3 r6 x3 (1 : Int32) (.ref r357) h425 O432 f427 f428 f429 f430 f431 c10 (⟨rfl, by decide⟩) rfl) (wk G 73 rfl) (wk G 43 rfl) (by decide) (by decide) (ew1 G)) E433 (wk G 69 rfl) (wk G 70 rfl) (wk G 72 rfl) (wk G 72 rfl) (wk G 71 rfl) (by decide) pd13 rfl rfl (by rw [hml]; rfl) (Nat.le_of_ble_eq_true rfl) rfl rfl (by decide) (by decide) all0 (hb hby at_78) (k_v (pc' := 81) rfl ?_)
        rintro _ h434 ⟨r436, rfl, f437, f438, f439, f440, f441, f442, f443⟩ K435
        refine go_astore (pc' := 83) (ls' := #[.val (.int x0), .val (.int x1), .val (.int x2), .val (.int x3), .val (.int x4), .val (.int x5), .val (.ref r3), .val (.ref r6), .val (.ref r9), .val (.int x3), .val (.int (1 : Int32)), .val (.ref r357), .val (.ref a412), .val (.ref r436), .unset, .unset]) (hb hby at_81) rfl rfl rfl ?_
        refine go_aload (pc' := 85) (hb hby at_83) rfl rfl rfl ?_
        refine go_nnT (pc' := 90) (hb hby at_85) (by decide) rfl ?_
        refine go_aload (pc' := 92) (hb hby at_90) rfl rfl rfl ?_
        refine go_old (fun O444 => ?_)
        refine callV0 (cells' := 16) (slots' := 198) (Wd := 0) (argsL := []) (rest := []) (pay_of (a0 := a0) (c_name l G r436 (.ref r357) h434 O444 f443 rfl) (wk G 80 rfl) (wk G 43 rfl) (by decide) (by decide)) f438 (wk G 76 rfl) (wk G 77 rfl) (wk G 79 rfl) (wk G 79 rfl) (wk G 78 rfl) (by decide) pd14 rfl rfl (by rw [hml]; rfl) (Nat.le_of_ble_eq_true rfl) rfl rfl (by decide) (by decide) all0 (fun _ _ => sf0) (hb hby at_92) (k_v (pc' := 95) rfl ?_)
        rintro _ h445 ⟨rfl, rfl⟩ K446
        refine go_astore (pc' := 97) (ls' := #[.val (.int x0), .val (.int x1), .val (.int x2), .val (.int x3), .val (.int x4), .val (.int x5), .val (.ref r3), .val (.ref r6), .val (.ref r9), .val (.int x3), .val (.int (1 : Int32)), .val (.ref r357), .val (.ref a412), .val (.ref r436), .val (.ref r357), .unset]) (hb hby at_95) rfl rfl rfl ?_
        refine go_aload (pc' := 99) (hb hby at_97) rfl rfl rfl ?_
        refine go_nnT (pc' := 115) (hb hby at_99) (by decide) rfl ?_
        refine go_aload (pc' := 117) (hb hby at_115) rfl rfl rfl ?_
        refine go_aload (pc' := 119) (hb hby at_117) rfl rfl rfl ?_
        have K447 : Keep h355 h411 [] := ((Keep.refl h355 []).ext X414)
        have K448 : Keep h355 h425 [] := (K447.trans K426 (allS (Or.inr (Nat.le_of_eq g413)) all0))
        have K449 : Keep h355 h434 [] := (K448.trans K435 all0)
        have E450 := (f358.keep K449)
        refine callV0 (cells' := 16) (slots' := 198) (Wd := 0) (argsL := [(.ref r357)]) (rest := []) (pay_of (a0 := a0) (c_eqsame l G r357 h434 O444 ) (wk G 85 rfl) (wk G 21 rfl) (by decide) (by decide)) E450 (wk G 81 rfl) (wk G 82 rfl) (wk G 84 rfl) (wk G 84 rfl) (wk G 83 rfl) (by decide) pd19 rfl rfl (by rw [hml]; rfl) (Nat.le_of_ble_eq_true rfl) rfl rfl (by decide) (by decide) all0 (fun _ _ => sf0) (hb hby at_119) (k_v (pc' := 122) rfl ?_)
        rintro _ h451 ⟨rfl, rfl⟩ K452
        refine go_istore (pc' := 124) (ls' := #[.val (.int x0), .val (.int x1), .val (.int x2), .val (.int x3), .val (.int x4), .val (.int x5), .val (.ref r3), .val (.ref r6), .val (.ref r9), .val (.int x3), .val (.int (1 : Int32)), .val (.ref r357), .val (.ref a412), .val (.ref r436), .val (.ref r357), .val (.int (1 : Int32))]) (hb hby at_122) rfl rfl ?_
        refine go_aload (pc' := 126) (hb hby at_124) rfl rfl rfl ?_
        refine callV0 (cells' := 16) (slots' := 198) (Wd := 0) (argsL := []) (rest := []) (pay_of (a0 := a0) (c_propagation l G r436 r3 h434 O444 f439) (wk G 90 rfl) (wk G 43 rfl) (by decide) (by decide)) f438 (wk G 86 rfl) (wk G 87 rfl) (wk G 89 rfl) (wk G 89 rfl) (wk G 88 rfl) (by decide) pd15 rfl rfl (by rw [hml]; rfl) (Nat.le_of_ble_eq_true rfl) rfl rfl (by decide) (by decide) all0 (fun _ _ => sf0) (hb hby at_126) (k_v (pc' := 129) rfl ?_)
        rintro _ h453 ⟨rfl, rfl⟩ K454
        refine go_aload (pc' := 131) (hb hby at_129) rfl rfl rfl ?_
        refine go_acF (pc' := 134) (hb hby at_131) rfl rfl rfl (XT.aa_ne_f rfl) ?_
        refine go_aload (pc' := 136) (hb hby at_134) rfl rfl rfl ?_
        refine callV0 (cells' := 16) (slots' := 198) (Wd := 0) (argsL := []) (rest := []) (pay_of (a0 := a0) (c_isolation l G r436 r9 h434 O444 f440) (wk G 95 rfl) (wk G 43 rfl) (by decide) (by decide)) f438 (wk G 91 rfl) (wk G 92 rfl) (wk G 94 rfl) (wk G 94 rfl) (wk G 93 rfl) (by decide) pd16 rfl rfl (by rw [hml]; rfl) (Nat.le_of_ble_eq_true rfl) rfl rfl (by decide) (by decide) all0 (fun _ _ => sf0) (hb hby at_136) (k_v (pc' := 139) rfl ?_)
        rintro _ h455 ⟨rfl, rfl⟩ K456
        refine go_aload (pc' := 141) (hb hby at_139) rfl rfl rfl ?_
        refine go_acF (pc' := 144) (hb hby at_141) rfl rfl rfl (XT.aa_ne_f rfl) ?_
        refine go_aload (pc' := 146) (hb hby at_144) rfl rfl rfl ?_
        refine callV0 (cells' := 16) (slots' := 198) (Wd := 0) (argsL := []) (rest := []) (pay_of (a0 := a0) (c_timeout l G r436 x3 h434 O444 f441) (wk G 100 rfl) (wk G 43 rfl) (by decide) (by decide)) f438 (wk G 96 rfl) (wk G 97 rfl) (wk G 99 rfl) (wk G 99 rfl) (wk G 98 rfl) (by decide) pd17 rfl rfl (by rw [hml]; rfl) (Nat.le_of_ble_eq_true rfl) rfl rfl (by decide) (by decide) all0 (fun _ _ => sf0) (hb hby at_146) (k_v (pc' := 149) rfl ?_)
        rintro _ h457 ⟨rfl, rfl⟩ K458
        refine go_iload (pc' := 151) (hb hby at_149) rfl rfl ?_
        refine go_icF (pc' := 154) (hb hby at_151) rfl (XT.ii_ne_f rfl) ?_
        refine go_aload (pc' := 156) (hb hby at_154) rfl rfl rfl ?_
        refine callV0 (cells' := 16) (slots' := 198) (Wd := 0) (argsL := []) (rest := []) (pay_of (a0 := a0) (c_readonly l G r436 (1 : Int32) h434 O444 f442 (⟨rfl, by decide⟩)) (wk G 105 rfl) (wk G 43 rfl) (by decide) (by decide)) f438 (wk G 101 rfl) (wk G 102 rfl) (wk G 104 rfl) (wk G 104 rfl) (wk G 103 rfl) (by decide) pd18 rfl rfl (by rw [hml]; rfl) (Nat.le_of_ble_eq_true rfl) rfl rfl (by decide) (by decide) all0 (fun _ _ => sf0) (hb hby at_156) (k_v (pc' := 159) rfl ?_)
        rintro _ h459 ⟨rfl, rfl⟩ K460
        refine go_iload (pc' := 161) (hb hby at_159) rfl rfl ?_
        refine go_icF (pc' := 164) (hb hby at_161) rfl (by decide) ?_
        refine go_iload (pc' := 166) (hb hby at_164) rfl rfl ?_
        refine go_ifF (pc' := 169) (hb hby at_166) rfl (by decide) ?_
        refine go_aload (pc' := 171) (hb hby at_169) rfl rfl rfl ?_
        have K461 : Keep h425 h434 [] := ((Keep.refl h425 []).trans K435 all0)
        have F462 := (f428.keep K461 nin0)
        have E463 := (E433.keep K461)
        refine callV0 (cells' := 16) (slots' := 198) (Wd := 0) (argsL := []) (rest := []) (pay_of (a0 := a0) (c_isolation l G a412 r6 h434 O444 F462) (wk G 95 rfl) (wk G 43 rfl) (by decide) (by decide)) E463 (wk G 91 rfl) (wk G 92 rfl) (wk G 94 rfl) (wk G 94 rfl) (wk G 93 rfl) (by decide) pd16 rfl rfl (by rw [hml]; rfl) (Nat.le_of_ble_eq_true rfl) rfl rfl (by decide) (by decide) all0 (fun _ _ => sf0) (hb hby at_171) (k_v (pc' := 174) rfl ?_)
        rintro _ h464 ⟨rfl, rfl⟩ K465
        refine go_aload (pc' := 176) (hb hby at_174) rfl rfl rfl ?_
        refine go_acF (pc' := 179) (hb hby at_176) rfl rfl rfl (XT.aa_ne_f rfl) ?_
        refine go_iconst (pc' := 180) (v := 1) (hb hby at_179) rfl rfl ?_
        refine go_goto (pc' := 184) (hb hby at_180) (by decide) rfl ?_
        have K466 : Keep h0 h411 [] := (K418.ext X414)
        have K467 : Keep h0 h425 [] := (K466.trans K426 (allS (Or.inr (Nat.le_trans K418.1 (Nat.le_of_eq g413))) all0))
        have K468 : Keep h0 h434 [] := (K467.trans K435 all0)
        refine go_ireturn hret hlk rfl (by simp) (hb hby at_184) (by decide) (by decide) ⟨_, rfl, rfl⟩ K468
set_option maxRecDepth 65536 in
set_option maxHeartbeats 40000000 in
theorem comes_1 {Post : Tables → Env → Array Value → State → Outcome → State → Prop} (hpost : ∀ tb e args s v u, (limb_1_1.after args s (.returned v) u = true ∧ limb_1_2.after args s (.returned v) u = true ∧ True) → ReturnedEndW s (.returned v) u (Jvm.fieldLocs frame_1_writes args s ++ Jvm.arrayLocs frame_1_arrays args s ++ Jvm.staticLocs frame_1_statics s) 24 3200 → Post tb e args s (.returned v) u) :
    ArmFor flags0 classFile x code maxLocals ret World_1 tables_1 room_1 Calls_1 rest_1 Pre_1 Post := by
  intro l hfl _ _ p e ha hc hk s m args below hf hA hF happ hP
  obtain ⟨hcalls, hrest, hpre⟩ := hP
  obtain ⟨-, -, -, hnamed, -, -, -, hat⟩ := (Spec.applies_iff hf).mp happ
  obtain ⟨hg, hn⟩ := and_e (Cond.before_iff.mp (show (Jvm.Cond.and given_1 narrow_1).before args s = true from hpre))
  obtain ⟨h1, h2⟩ := and_e hg
  obtain ⟨w0, w1, w2, w3, w4, w5, rfl⟩ : ∃ w0 w1 w2 w3 w4 w5 : Value, args = #[w0, w1, w2, w3, w4, w5] := by
    have hs : args.size = 6 := by simpa [Cond.value, given_1] using h1
    obtain ⟨L⟩ := args
    match L, hs with
    | [w0, w1, w2, w3, w4, w5], _ => exact ⟨w0, w1, w2, w3, w4, w5, rfl⟩
  have hw := fun d (hd : d ∈ tables_1) => atoms_spec (ws := Jvm.Cond.code x code maxLocals ret :: tables_1) hat d (List.mem_cons_of_mem _ hd)
  obtain ⟨hsets, hown0⟩ := atoms_of _ (rest_1_c_eq ▸ (show rest_1_c.before _ s = true from hrest))
  have hfit : Fit s := fun {y c} hc i hi => by
    obtain ⟨ha, rfl⟩ := Array.getElem?_eq_some_iff.mp hc
    have q := List.all_eq_true.mp ((Array.all_eq_true_iff_forall_mem.mp hF) _ (Array.getElem_mem ha)) i (List.mem_range.mpr hi)
    simpa [Array.getElem?_eq_getElem hi] using q
  obtain ⟨q0, h2⟩ := and_e h2
  obtain ⟨i0, e0⟩ := is_v q0
  obtain rfl : w0 = (.int i0) := Option.some.inj e0
  obtain ⟨q1, h2⟩ := and_e h2
  obtain ⟨i1, e1⟩ := is_v q1
  obtain rfl : w1 = (.int i1) := Option.some.inj e1
  obtain ⟨q2, h2⟩ := and_e h2
  obtain ⟨i2, e2⟩ := is_v q2
  obtain rfl : w2 = (.int i2) := Option.some.inj e2
  obtain ⟨q3, h2⟩ := and_e h2
  obtain ⟨i3, e3⟩ := is_v q3
  obtain rfl : w3 = (.int i3) := Option.some.inj e3
  obtain ⟨q4, h2⟩ := and_e h2
  obtain ⟨i4, e4⟩ := is_v q4
  obtain rfl : w4 = (.int i4) := Option.some.inj e4
  have q5 := h2
  obtain ⟨i5, e5⟩ := is_v q5
  obtain rfl : w5 = (.int i5) := Option.some.inj e5
  have hew : EW s #[(.int i0), (.int i1), (.int i2), (.int i3), (.int i4), (.int i5)] EL1 := (EW.cons (hw _ (List.mem_of_getElem? (i := 53) rfl)) (by decide) (EW.cons (hw _ (List.mem_of_getElem? (i := 58) rfl)) (by decide) (EW.cons (hw _ (List.mem_of_getElem? (i := 33) rfl)) (by decide) EW.nil)))
  have G : GH s #[(.int i0), (.int i1), (.int i2), (.int i3), (.int i4), (.int i5)] := ⟨hw, hsets, hew, hn, hfit⟩
  obtain ⟨n, o, h1, h2, h3, v, L, rfl, ⟨⟨_, rfl, hv⟩, N, -⟩, hC, -⟩ := c_law l G i0 i1 i2 i3 i4 i5 s.heap (Old.start s) p e ha hc hk s m _ below hf ((Spec.applies_iff_loose hf).mp happ).1 ⟨rfl, State.Warmed39.refl s, rfl, (fun _ => CHv.start (a0 := _) hew (fun q hq => held_of (hcalls.1 q hq)) (hsets _ (List.mem_of_getElem? (i := 2) rfl)) (hw _ (List.mem_of_getElem? (i := 34) rfl)) (hw _ (List.mem_of_getElem? (i := 20) rfl)))⟩ trivial
  subst hv
  have hq := (hC rfl).2
  refine ⟨n, _, h1, h2, h3, hpost _ _ _ _ _ _ ⟨Cond.after_iff.mpr rfl, Cond.after_iff.mpr (eq_i res_at (Term.int_eval (1)) rfl), trivial⟩ ⟨hq.1, hq.2.1, hq.2.2.1, (hq.2.2.2.sift fun y hy => Or.inr (N y hy)).mono (by decide) (by decide)⟩⟩
theorem main_1_1 : Claimed_1_1 := comes_1 fun _ _ _ _ _ _ h hF => ⟨h.1, hF⟩
theorem main_1_2 : Claimed_1_2 := comes_1 fun _ _ _ _ _ _ h hF => ⟨h.2.1, hF⟩
end Jvm.Pilot.@@N@@
namespace Jvm.Pilot.@@N@@
open Jvm Jvm.ClassFile Sem Op Lib Jvm.Free Jvm.Stand Jvm.Pilot.@@N@@.Jvm.D
/-! MADE BY PROGRAM (witnessworld.py) out of the Statement's table words and the real class files: 25 classes; the members and pool entries that the words name. The judged class is class 1, her method 4. -/
namespace start1
open Jvm.ClassFile
def u (s : String) : CpInfo := .utf8 (stringToUtf16 s)
/-- a pool by its gaps: so many unusable entries, then the entry; so many at the end -/
def gap : Nat → List CpInfo → List CpInfo
  | 0, r => r
  | n + 1, r => .unusable :: gap n r
def poolList (es : List (Nat × CpInfo)) (last : Nat) : List CpInfo := es.foldr (fun e r => gap e.1 (e.2 :: r)) (gap last [])
def pool (es : List (Nat × CpInfo)) (last : Nat) : Array CpInfo := ⟨poolList es last⟩
def fileOf (pool : Array CpInfo) (this : Nat) (attrs : Array Attribute := #[]) (ms : Array MethodInfo := #[]) (fl : Nat := 33) (sup : Nat := 0) (ifs : Array Nat := #[]) (fds : Array FieldInfo := #[]) : ClassFile where
  minorVersion := 0
  majorVersion := 65
  constantPool := pool
  accessFlags := fl
  thisClass := this
  superClass := sup
  interfaces := ifs
  fields := fds
  methods := ms
  attributes := attrs
def plain (name : String) (sup : Option ClassId) : Class where
  name := name
  kind := .ordinary
  loader := none
  accessFlags := 33
  super := sup
  interfaces := #[]
  cf := none
  fields := #[]
  methods := #[]
  instanceTypes := #[]
  staticTypes := #[]
  resolved := #[]
  callSites := []
  init := .initialized
  statics := none
  mirror := none

def pool0 : Array CpInfo := pool [(5, u "<init>"), (0, u "()V"), (1, .class_ 10), (1, u "java/lang/Object")] 113

def k0c0 : Code := { maxStack := 0, maxLocals := 1, code := object_method_1_code, exceptionTable := #[], attributes := #[] }
def k0m0 : Method := { name := "<init>", desc := "()V", sig := { parameters := [], returnType := none }, accessFlags := 1, code := some k0c0 }
/-- java/lang/Object -/
def k0 : Class := { plain "java/lang/Object" none with
  accessFlags := 33
  interfaces := #[]
  cf := some (fileOf pool0 8 #[] #[{ accessFlags := 1, nameIndex := 5, descriptorIndex := 6, attributes := #[] }] 33 0 #[] #[])
  fields := #[]
  methods := #[k0m0]
  instanceTypes := #[]
  staticTypes := #[]
  resolved := Array.replicate 124 none
  statics := none }

def pool1 : Array CpInfo := pool [(2, .class_ 4), (1, u "java/lang/Object"), (0, u "<init>"), (0, u "()V"), (0, .integer 2147483647), (0, .fieldref 9 10), (0, .class_ 11), (0, .nameAndType 12 13), (0, u "com/example/commitwise/commitwise/Propagation"), (0, u "REQUIRED"), (0, u "Lcom/example/commitwise/commitwise/Propagation;"), (0, .fieldref 9 15), (0, .nameAndType 16 13), (0, u "SUPPORTS"), (0, .fieldref 9 18), (0, .nameAndType 19 13), (0, u "MANDATORY"), (0, .fieldref 9 21), (0, .nameAndType 22 13), (0, u "REQUIRES_NEW"), (0, .fieldref 9 24), (0, .nameAndType 25 13), (0, u "NOT_SUPPORTED"), (0, .fieldref 9 27), (0, .nameAndType 28 13), (0, u "NEVER"), (0, .fieldref 9 30), (0, .nameAndType 31 13), (0, u "NESTED"), (0, .fieldref 33 34), (0, .class_ 35), (0, .nameAndType 36 37), (0, u "com/example/commitwise/commitwise/Isolation"), (0, u "DEFAULT"), (0, u "Lcom/example/commitwise/commitwise/Isolation;"), (0, .fieldref 33 39), (0, .nameAndType 40 37), (0, u "READ_UNCOMMITTED"), (0, .fieldref 33 42), (0, .nameAndType 43 37), (0, u "READ_COMMITTED"), (0, .fieldref 33 45), (0, .nameAndType 46 37), (0, u "REPEATABLE_READ"), (0, .fieldref 33 48), (0, .nameAndType 49 37), (0, u "SERIALIZABLE"), (0, .class_ 51), (0, u "java/lang/String"), (0, .methodref 50 53), (0, .nameAndType 5 54), (0, u "([C)V"), (0, .methodref 50 56), (0, .nameAndType 57 58), (0, u "valueOf"), (0, u "(C)Ljava/lang/String;"), (0, .methodref 60 61), (0, .class_ 62), (0, .nameAndType 63 64), (0, u "com/example/commitwise/commitwise/TransactionDefinitionWithIsolationPinLaw"), (0, u "prop"), (0, u "(I)Lcom/example/commitwise/commitwise/Propagation;"), (0, .methodref 60 66), (0, .nameAndType 67 68), (0, u "iso"), (0, u "(I)Lcom/example/commitwise/commitwise/Isolation;"), (0, .methodref 60 70), (0, .nameAndType 71 72), (0, u "name"), (0, u "(II)Ljava/lang/String;"), (0, .class_ 74), (0, u "com/example/commitwise/commitwise/TransactionDefinition"), (0, .methodref 73 76), (0, .nameAndType 5 77), (0, u "(Lcom/example/commitwise/commitwise/Propagation;Lcom/example/commitwise/commitwise/Isolation;IZLjava/lang/String;)V"), (0, .methodref 73 79), (0, .nameAndType 80 81), (0, u "withIsolation"), (0, u "(Lcom/example/commitwise/commitwise/Isolation;)Lcom/example/commitwise/commitwise/TransactionDefinition;"), (0, .methodref 73 83), (0, .nameAndType 71 84), (0, u "()Ljava/lang/String;"), (0, .methodref 50 86), (0, .nameAndType 87 88), (0, u "equals"), (0, u "(Ljava/lang/Object;)Z"), (0, .methodref 73 90), (0, .nameAndType 91 92), (0, u "propagation"), (0, u "()Lcom/example/commitwise/commitwise/Propagation;"), (0, .methodref 73 94), (0, .nameAndType 95 96), (0, u "isolation"), (0, u "()Lcom/example/commitwise/commitwise/Isolation;"), (0, .methodref 73 98), (0, .nameAndType 99 100), (0, u "timeout"), (0, u "()I"), (0, .methodref 73 102), (0, .nameAndType 103 104), (0, u "readOnly"), (0, u "()Z"), (3, u "law"), (0, u "(IIIIII)Z")] 2

def k1m0 : Method := { name := "<init>", desc := "()V", sig := { parameters := [], returnType := none }, accessFlags := 1, code := none }
def k1c1 : Code := { maxStack := 2, maxLocals := 2, code := method_2_code, exceptionTable := #[], attributes := #[] }
def k1m1 : Method := { name := "prop", desc := "(I)Lcom/example/commitwise/commitwise/Propagation;", sig := { parameters := [.int], returnType := some (.object "com/example/commitwise/commitwise/Propagation") }, accessFlags := 10, code := some k1c1 }
def k1c2 : Code := { maxStack := 2, maxLocals := 2, code := method_3_code, exceptionTable := #[], attributes := #[] }
def k1m2 : Method := { name := "iso", desc := "(I)Lcom/example/commitwise/commitwise/Isolation;", sig := { parameters := [.int], returnType := some (.object "com/example/commitwise/commitwise/Isolation") }, accessFlags := 10, code := some k1c2 }
def k1c3 : Code := { maxStack := 3, maxLocals := 7, code := method_4_code, exceptionTable := #[], attributes := #[] }
def k1m3 : Method := { name := "name", desc := "(II)Ljava/lang/String;", sig := { parameters := [.int, .int], returnType := some (.object "java/lang/String") }, accessFlags := 10, code := some k1c3 }
def k1c4 : Code := { maxStack := 7, maxLocals := 16, code := code, exceptionTable := #[], attributes := #[] }
def k1m4 : Method := { name := "law", desc := "(IIIIII)Z", sig := { parameters := [.int, .int, .int, .int, .int, .int], returnType := some .boolean }, accessFlags := 9, code := some k1c4 }
/-- com/example/commitwise/commitwise/TransactionDefinitionWithIsolationPinLaw -/
def k1 : Class := { plain "com/example/commitwise/commitwise/TransactionDefinitionWithIsolationPinLaw" (some 0) with
  accessFlags := 49
  interfaces := #[]
  cf := some (fileOf pool1 60 #[] #[{ accessFlags := 1, nameIndex := 5, descriptorIndex := 6, attributes := #[] }, { accessFlags := 10, nameIndex := 63, descriptorIndex := 64, attributes := #[] }, { accessFlags := 10, nameIndex := 67, descriptorIndex := 68, attributes := #[] }, { accessFlags := 10, nameIndex := 71, descriptorIndex := 72, attributes := #[] }, { accessFlags := 9, nameIndex := 108, descriptorIndex := 109, attributes := #[] }] 49 2 #[] #[])
  fields := #[]
  methods := #[k1m0, k1m1, k1m2, k1m3, k1m4]
  instanceTypes := #[]
  staticTypes := #[]
  resolved := Array.replicate 112 none
  statics := none }

def pool2 : Array CpInfo := pool [(1, .class_ 2), (0, u "java/lang/constant/Constable"), (0, .class_ 4), (0, u "java/lang/Object")] 6

/-- java/lang/constant/Constable -/
def k2 : Class := { plain "java/lang/constant/Constable" (some 0) with
  accessFlags := 1537
  interfaces := #[]
  cf := some (fileOf pool2 1 #[] #[] 1537 3 #[] #[])
  fields := #[]
  methods := #[]
  instanceTypes := #[]
  staticTypes := #[]
  resolved := Array.replicate 11 none
  statics := none }

def pool3 : Array CpInfo := pool [(1, .class_ 2), (0, u "java/lang/Comparable"), (0, .class_ 4), (0, u "java/lang/Object")] 7

/-- java/lang/Comparable -/
def k3 : Class := { plain "java/lang/Comparable" (some 0) with
  accessFlags := 1537
  interfaces := #[]
  cf := some (fileOf pool3 1 #[] #[] 1537 3 #[] #[])
  fields := #[]
  methods := #[]
  instanceTypes := #[]
  staticTypes := #[]
  resolved := Array.replicate 12 none
  statics := none }

def pool4 : Array CpInfo := pool [(1, .class_ 2), (0, u "java/io/Serializable"), (0, .class_ 4), (0, u "java/lang/Object")] 2

/-- java/io/Serializable -/
def k4 : Class := { plain "java/io/Serializable" (some 0) with
  accessFlags := 1537
  interfaces := #[]
  cf := some (fileOf pool4 1 #[] #[] 1537 3 #[] #[])
  fields := #[]
  methods := #[]
  instanceTypes := #[]
  staticTypes := #[]
  resolved := Array.replicate 7 none
  statics := none }

def pool5 : Array CpInfo := pool [(2, .class_ 4), (1, u "java/lang/Enum"), (0, u "name"), (0, u "Ljava/lang/String;"), (2, u "ordinal"), (0, u "I"), (1, .class_ 14), (1, u "java/lang/Object"), (4, u "hash"), (86, .class_ 108), (1, u "java/lang/Enum$EnumDesc"), (2, .class_ 112), (0, u "java/lang/constant/Constable"), (0, .class_ 114), (0, u "java/lang/Comparable"), (0, .class_ 116), (0, u "java/io/Serializable")] 87

/-- java/lang/Enum -/
def k5 : Class := { plain "java/lang/Enum" (some 0) with
  accessFlags := 1057
  interfaces := #[2, 3, 4]
  cf := some (fileOf pool5 2 #[.nestMembers #[106]] #[] 1057 12 #[111, 113, 115] #[{ accessFlags := 18, nameIndex := 5, descriptorIndex := 6, attributes := #[] }, { accessFlags := 18, nameIndex := 9, descriptorIndex := 10, attributes := #[] }, { accessFlags := 2, nameIndex := 19, descriptorIndex := 10, attributes := #[] }])
  fields := #[{ name := "name", type := (.object "java/lang/String"), accessFlags := 18, slot := 0, constantValue := 0 }, { name := "ordinal", type := .int, accessFlags := 18, slot := 1, constantValue := 0 }, { name := "hash", type := .int, accessFlags := 2, slot := 2, constantValue := 0 }]
  methods := #[]
  instanceTypes := #[(.object "java/lang/String"), .int, .int]
  staticTypes := #[]
  resolved := Array.replicate 204 none
  statics := none }

def pool6 : Array CpInfo := pool [(1, .class_ 2), (0, u "com/example/commitwise/commitwise/Propagation"), (2, u "REQUIRED"), (0, u "Lcom/example/commitwise/commitwise/Propagation;"), (2, u "SUPPORTS"), (2, u "MANDATORY"), (2, u "REQUIRES_NEW"), (2, u "NOT_SUPPORTED"), (2, u "NEVER"), (2, u "NESTED"), (2, u "$VALUES"), (0, u "[Lcom/example/commitwise/commitwise/Propagation;"), (6, .class_ 37), (1, u "java/lang/Enum"), (8, u "code"), (0, u "I")] 27

/-- com/example/commitwise/commitwise/Propagation -/
def k6 : Class := { plain "com/example/commitwise/commitwise/Propagation" (some 5) with
  accessFlags := 16433
  interfaces := #[]
  cf := some (fileOf pool6 1 #[] #[] 16433 35 #[] #[{ accessFlags := 16409, nameIndex := 5, descriptorIndex := 6, attributes := #[] }, { accessFlags := 16409, nameIndex := 9, descriptorIndex := 6, attributes := #[] }, { accessFlags := 16409, nameIndex := 12, descriptorIndex := 6, attributes := #[] }, { accessFlags := 16409, nameIndex := 15, descriptorIndex := 6, attributes := #[] }, { accessFlags := 16409, nameIndex := 18, descriptorIndex := 6, attributes := #[] }, { accessFlags := 16409, nameIndex := 21, descriptorIndex := 6, attributes := #[] }, { accessFlags := 16409, nameIndex := 24, descriptorIndex := 6, attributes := #[] }, { accessFlags := 18, nameIndex := 46, descriptorIndex := 47, attributes := #[] }, { accessFlags := 4122, nameIndex := 27, descriptorIndex := 28, attributes := #[] }])
  fields := #[{ name := "REQUIRED", type := (.object "com/example/commitwise/commitwise/Propagation"), accessFlags := 16409, slot := 0, constantValue := 0 }, { name := "SUPPORTS", type := (.object "com/example/commitwise/commitwise/Propagation"), accessFlags := 16409, slot := 1, constantValue := 0 }, { name := "MANDATORY", type := (.object "com/example/commitwise/commitwise/Propagation"), accessFlags := 16409, slot := 2, constantValue := 0 }, { name := "REQUIRES_NEW", type := (.object "com/example/commitwise/commitwise/Propagation"), accessFlags := 16409, slot := 3, constantValue := 0 }, { name := "NOT_SUPPORTED", type := (.object "com/example/commitwise/commitwise/Propagation"), accessFlags := 16409, slot := 4, constantValue := 0 }, { name := "NEVER", type := (.object "com/example/commitwise/commitwise/Propagation"), accessFlags := 16409, slot := 5, constantValue := 0 }, { name := "NESTED", type := (.object "com/example/commitwise/commitwise/Propagation"), accessFlags := 16409, slot := 6, constantValue := 0 }, { name := "code", type := .int, accessFlags := 18, slot := 3, constantValue := 0 }, { name := "$VALUES", type := (.array (.object "com/example/commitwise/commitwise/Propagation")), accessFlags := 4122, slot := 7, constantValue := 0 }]
  methods := #[]
  instanceTypes := #[(.object "java/lang/String"), .int, .int, .int]
  staticTypes := #[(.object "com/example/commitwise/commitwise/Propagation"), (.object "com/example/commitwise/commitwise/Propagation"), (.object "com/example/commitwise/commitwise/Propagation"), (.object "com/example/commitwise/commitwise/Propagation"), (.object "com/example/commitwise/commitwise/Propagation"), (.object "com/example/commitwise/commitwise/Propagation"), (.object "com/example/commitwise/commitwise/Propagation"), (.array (.object "com/example/commitwise/commitwise/Propagation"))]
  resolved := Array.replicate 75 none
  statics := some 0 }

def pool7 : Array CpInfo := pool [(1, .class_ 2), (0, u "com/example/commitwise/commitwise/Isolation"), (2, u "DEFAULT"), (0, u "Lcom/example/commitwise/commitwise/Isolation;"), (2, u "READ_UNCOMMITTED"), (2, u "READ_COMMITTED"), (2, u "REPEATABLE_READ"), (2, u "SERIALIZABLE"), (2, u "$VALUES"), (0, u "[Lcom/example/commitwise/commitwise/Isolation;"), (6, .class_ 31), (1, u "java/lang/Enum"), (8, u "code"), (0, u "I")] 27

/-- com/example/commitwise/commitwise/Isolation -/
def k7 : Class := { plain "com/example/commitwise/commitwise/Isolation" (some 5) with
  accessFlags := 16433
  interfaces := #[]
  cf := some (fileOf pool7 1 #[] #[] 16433 29 #[] #[{ accessFlags := 16409, nameIndex := 5, descriptorIndex := 6, attributes := #[] }, { accessFlags := 16409, nameIndex := 9, descriptorIndex := 6, attributes := #[] }, { accessFlags := 16409, nameIndex := 12, descriptorIndex := 6, attributes := #[] }, { accessFlags := 16409, nameIndex := 15, descriptorIndex := 6, attributes := #[] }, { accessFlags := 16409, nameIndex := 18, descriptorIndex := 6, attributes := #[] }, { accessFlags := 18, nameIndex := 40, descriptorIndex := 41, attributes := #[] }, { accessFlags := 4122, nameIndex := 21, descriptorIndex := 22, attributes := #[] }])
  fields := #[{ name := "DEFAULT", type := (.object "com/example/commitwise/commitwise/Isolation"), accessFlags := 16409, slot := 0, constantValue := 0 }, { name := "READ_UNCOMMITTED", type := (.object "com/example/commitwise/commitwise/Isolation"), accessFlags := 16409, slot := 1, constantValue := 0 }, { name := "READ_COMMITTED", type := (.object "com/example/commitwise/commitwise/Isolation"), accessFlags := 16409, slot := 2, constantValue := 0 }, { name := "REPEATABLE_READ", type := (.object "com/example/commitwise/commitwise/Isolation"), accessFlags := 16409, slot := 3, constantValue := 0 }, { name := "SERIALIZABLE", type := (.object "com/example/commitwise/commitwise/Isolation"), accessFlags := 16409, slot := 4, constantValue := 0 }, { name := "code", type := .int, accessFlags := 18, slot := 3, constantValue := 0 }, { name := "$VALUES", type := (.array (.object "com/example/commitwise/commitwise/Isolation")), accessFlags := 4122, slot := 5, constantValue := 0 }]
  methods := #[]
  instanceTypes := #[(.object "java/lang/String"), .int, .int, .int]
  staticTypes := #[(.object "com/example/commitwise/commitwise/Isolation"), (.object "com/example/commitwise/commitwise/Isolation"), (.object "com/example/commitwise/commitwise/Isolation"), (.object "com/example/commitwise/commitwise/Isolation"), (.object "com/example/commitwise/commitwise/Isolation"), (.array (.object "com/example/commitwise/commitwise/Isolation"))]
  resolved := Array.replicate 69 none
  statics := some 1 }

def pool8 : Array CpInfo := pool [(2, .class_ 4), (1, u "java/lang/CharSequence"), (42, .class_ 48), (0, u "java/lang/CharSequence$1CodePointIterator"), (10, .class_ 60), (0, u "java/lang/CharSequence$1CharIterator"), (5, .class_ 67), (0, u "java/lang/Object")] 63

/-- java/lang/CharSequence -/
def k8 : Class := { plain "java/lang/CharSequence" (some 0) with
  accessFlags := 1537
  interfaces := #[]
  cf := some (fileOf pool8 2 #[.nestMembers #[47, 59]] #[] 1537 66 #[] #[])
  fields := #[]
  methods := #[]
  instanceTypes := #[]
  staticTypes := #[]
  resolved := Array.replicate 131 none
  statics := none }

def pool9 : Array CpInfo := pool [(1, .class_ 2), (0, u "java/lang/constant/ConstantDesc"), (0, .class_ 4), (0, u "java/lang/Object")] 32

/-- java/lang/constant/ConstantDesc -/
def k9 : Class := { plain "java/lang/constant/ConstantDesc" (some 0) with
  accessFlags := 1537
  interfaces := #[]
  cf := some (fileOf pool9 1 #[] #[] 1537 3 #[] #[])
  fields := #[]
  methods := #[]
  instanceTypes := #[]
  staticTypes := #[]
  resolved := Array.replicate 37 none
  statics := none }

def pool10 : Array CpInfo := pool [(1, .methodref 2 3), (0, .class_ 4), (0, .nameAndType 5 6), (0, u "java/lang/Object"), (0, u "<init>"), (0, u "()V"), (0, .string 8), (0, u ""), (0, .fieldref 10 11), (0, .class_ 12), (0, .nameAndType 13 14), (0, u "java/lang/String"), (0, u "value"), (0, u "[B"), (0, .fieldref 10 16), (0, .nameAndType 17 18), (0, u "coder"), (0, u "B"), (2, u "hash"), (0, u "I"), (2, u "hashIsZero"), (0, u "Z"), (0, .methodref 10 28), (0, .nameAndType 5 29), (0, u "([CIILjava/lang/Void;)V"), (8, .fieldref 10 39), (0, .nameAndType 40 26), (0, u "COMPACT_STRINGS"), (1, .class_ 44), (1, u "java/lang/StringUTF16"), (0, u "compress"), (1, .methodref 42 48), (0, .nameAndType 49 50), (0, u "coderFromArrayLen"), (0, u "([BI)B"), (2, u "toBytes"), (53, .class_ 109), (1, u "java/lang/StringLatin1"), (67, .methodref 42 178), (0, .nameAndType 45 179), (0, u "([CII)[B"), (29, .methodref 10 210), (0, .nameAndType 5 211), (0, u "([BB)V"), (157, u "(C)Z"), (173, u "equals"), (29, u "(Ljava/lang/Object;)Z"), (1, .class_ 576), (0, u "java/lang/CharSequence"), (22, u "CASE_INSENSITIVE_ORDER"), (0, u "Ljava/util/Comparator;"), (181, u "valueOf"), (0, u "(C)Ljava/lang/String;"), (226, u "([C)V"), (4, .methodref 107 1016), (0, .nameAndType 1017 369), (0, u "canEncode"), (0, .methodref 107 1019), (0, .nameAndType 53 1020), (0, u "(C)[B"), (80, u "serialPersistentFields"), (0, u "[Ljava/io/ObjectStreamField;"), (0, .class_ 1104), (0, u "java/lang/String$CaseInsensitiveComparator"), (1, .class_ 1107), (0, u "java/io/Serializable"), (0, .class_ 1109), (0, u "java/lang/Comparable"), (0, .class_ 1111), (0, u "java/lang/constant/Constable"), (0, .class_ 1113), (0, u "java/lang/constant/ConstantDesc"), (2, u "serialVersionUID"), (0, u "J"), (3, u "REPL"), (0, u "C"), (2, u "LATIN1"), (1, u "UTF16")] 323

def k10m0 : Method := { name := "<init>", desc := "()V", sig := { parameters := [], returnType := none }, accessFlags := 1, code := none }
def k10c1 : Code := { maxStack := 5, maxLocals := 2, code := jdk_42_method_3_code, exceptionTable := #[], attributes := #[] }
def k10m1 : Method := { name := "<init>", desc := "([C)V", sig := { parameters := [(.array .char)], returnType := none }, accessFlags := 1, code := some k10c1 }
def k10c2 : Code := { maxStack := 2, maxLocals := 3, code := jdk_42_method_66_code, exceptionTable := #[], attributes := #[] }
def k10m2 : Method := { name := "equals", desc := "(Ljava/lang/Object;)Z", sig := { parameters := [(.object "java/lang/Object")], returnType := some .boolean }, accessFlags := 1, code := some k10c2 }
def k10c3 : Code := { maxStack := 4, maxLocals := 1, code := jdk_42_method_139_code, exceptionTable := #[], attributes := #[] }
def k10m3 : Method := { name := "valueOf", desc := "(C)Ljava/lang/String;", sig := { parameters := [.char], returnType := some (.object "java/lang/String") }, accessFlags := 9, code := some k10c3 }
def k10c4 : Code := { maxStack := 4, maxLocals := 6, code := jdk_42_method_149_code, exceptionTable := #[], attributes := #[] }
def k10m4 : Method := { name := "<init>", desc := "([CIILjava/lang/Void;)V", sig := { parameters := [(.array .char), .int, .int, (.object "java/lang/Void")], returnType := none }, accessFlags := 2, code := some k10c4 }
def k10c5 : Code := { maxStack := 2, maxLocals := 3, code := jdk_42_method_151_code, exceptionTable := #[], attributes := #[] }
def k10m5 : Method := { name := "<init>", desc := "([BB)V", sig := { parameters := [(.array .byte), .byte], returnType := none }, accessFlags := 0, code := some k10c5 }
/-- java/lang/String -/
def k10 : Class := { plain "java/lang/String" (some 0) with
  accessFlags := 49
  interfaces := #[4, 3, 8, 2, 9]
  cf := some (fileOf pool10 10 #[.nestMembers #[1103]] #[{ accessFlags := 1, nameIndex := 5, descriptorIndex := 6, attributes := #[] }, { accessFlags := 1, nameIndex := 5, descriptorIndex := 1010, attributes := #[] }, { accessFlags := 1, nameIndex := 543, descriptorIndex := 573, attributes := #[] }, { accessFlags := 9, nameIndex := 782, descriptorIndex := 783, attributes := #[] }, { accessFlags := 2, nameIndex := 5, descriptorIndex := 29, attributes := #[] }, { accessFlags := 0, nameIndex := 5, descriptorIndex := 211, attributes := #[] }] 49 2 #[1106, 1108, 575, 1110, 1112] #[{ accessFlags := 18, nameIndex := 13, descriptorIndex := 14, attributes := #[] }, { accessFlags := 18, nameIndex := 17, descriptorIndex := 18, attributes := #[] }, { accessFlags := 2, nameIndex := 21, descriptorIndex := 22, attributes := #[] }, { accessFlags := 2, nameIndex := 25, descriptorIndex := 26, attributes := #[] }, { accessFlags := 26, nameIndex := 1116, descriptorIndex := 1117, attributes := #[] }, { accessFlags := 24, nameIndex := 40, descriptorIndex := 26, attributes := #[] }, { accessFlags := 26, nameIndex := 1101, descriptorIndex := 1102, attributes := #[] }, { accessFlags := 26, nameIndex := 1121, descriptorIndex := 1122, attributes := #[] }, { accessFlags := 25, nameIndex := 599, descriptorIndex := 600, attributes := #[] }, { accessFlags := 24, nameIndex := 1125, descriptorIndex := 18, attributes := #[] }, { accessFlags := 24, nameIndex := 1127, descriptorIndex := 18, attributes := #[] }])
  fields := #[{ name := "value", type := (.array .byte), accessFlags := 18, slot := 0, constantValue := 0 }, { name := "coder", type := .byte, accessFlags := 18, slot := 1, constantValue := 0 }, { name := "hash", type := .int, accessFlags := 2, slot := 2, constantValue := 0 }, { name := "hashIsZero", type := .boolean, accessFlags := 2, slot := 3, constantValue := 0 }, { name := "serialVersionUID", type := .long, accessFlags := 26, slot := 0, constantValue := 0 }, { name := "COMPACT_STRINGS", type := .boolean, accessFlags := 24, slot := 1, constantValue := 0 }, { name := "serialPersistentFields", type := (.array (.object "java/io/ObjectStreamField")), accessFlags := 26, slot := 2, constantValue := 0 }, { name := "REPL", type := .char, accessFlags := 26, slot := 3, constantValue := 0 }, { name := "CASE_INSENSITIVE_ORDER", type := (.object "java/util/Comparator"), accessFlags := 25, slot := 4, constantValue := 0 }, { name := "LATIN1", type := .byte, accessFlags := 24, slot := 5, constantValue := 0 }, { name := "UTF16", type := .byte, accessFlags := 24, slot := 6, constantValue := 0 }]
  methods := #[k10m0, k10m1, k10m2, k10m3, k10m4, k10m5]
  instanceTypes := #[(.array .byte), .byte, .int, .boolean]
  staticTypes := #[.long, .boolean, (.array (.object "java/io/ObjectStreamField")), .char, (.object "java/util/Comparator"), .byte, .byte]
  resolved := Array.replicate 1451 none
  statics := some 2 }

def pool11 : Array CpInfo := pool [(1, .methodref 2 3), (0, .class_ 4), (0, .nameAndType 5 6), (0, u "java/lang/Object"), (0, u "<init>"), (0, u "()V"), (0, .class_ 8), (0, u "java/lang/Record")] 13

def k11c0 : Code := { maxStack := 1, maxLocals := 1, code := jdk_30_method_1_code, exceptionTable := #[], attributes := #[] }
def k11m0 : Method := { name := "<init>", desc := "()V", sig := { parameters := [], returnType := none }, accessFlags := 4, code := some k11c0 }
/-- java/lang/Record -/
def k11 : Class := { plain "java/lang/Record" (some 0) with
  accessFlags := 1057
  interfaces := #[]
  cf := some (fileOf pool11 7 #[] #[{ accessFlags := 4, nameIndex := 5, descriptorIndex := 6, attributes := #[] }] 1057 2 #[] #[])
  fields := #[]
  methods := #[k11m0]
  instanceTypes := #[]
  staticTypes := #[]
  resolved := Array.replicate 22 none
  statics := none }

def pool12 : Array CpInfo := pool [(1, .methodref 2 3), (0, .class_ 4), (0, .nameAndType 5 6), (0, u "java/lang/Record"), (0, u "<init>"), (0, u "()V"), (0, .string 8), (0, u "propagation"), (0, .methodref 10 11), (0, .class_ 12), (0, .nameAndType 13 14), (0, u "java/util/Objects"), (0, u "requireNonNull"), (0, u "(Ljava/lang/Object;Ljava/lang/String;)Ljava/lang/Object;"), (0, .string 16), (0, u "isolation"), (0, .class_ 18), (0, u "com/example/commitwise/commitwise/TransactionDefinition"), (9, .fieldref 17 29), (0, .nameAndType 8 30), (0, u "Lcom/example/commitwise/commitwise/Propagation;"), (0, .fieldref 17 32), (0, .nameAndType 16 33), (0, u "Lcom/example/commitwise/commitwise/Isolation;"), (0, .fieldref 17 35), (0, .nameAndType 36 37), (0, u "timeout"), (0, u "I"), (0, .fieldref 17 39), (0, .nameAndType 40 41), (0, u "readOnly"), (0, u "Z"), (0, .fieldref 17 43), (0, .nameAndType 44 45), (0, u "name"), (0, u "Ljava/lang/String;"), (0, .methodref 17 47), (0, .nameAndType 5 48), (0, u "(Lcom/example/commitwise/commitwise/Propagation;Lcom/example/commitwise/commitwise/Isolation;IZLjava/lang/String;)V"), (21, u "DEFAULT"), (2, u "Lcom/example/commitwise/commitwise/TransactionDefinition;"), (0, u "NO_TIMEOUT"), (10, u "withIsolation"), (0, u "(Lcom/example/commitwise/commitwise/Isolation;)Lcom/example/commitwise/commitwise/TransactionDefinition;"), (6, u "()Ljava/lang/String;"), (0, u "()I"), (1, u "()Lcom/example/commitwise/commitwise/Propagation;"), (0, u "()Lcom/example/commitwise/commitwise/Isolation;"), (0, u "()Z")] 33

def k12c0 : Code := { maxStack := 3, maxLocals := 6, code := prog_30_method_1_code, exceptionTable := #[], attributes := #[] }
def k12m0 : Method := { name := "<init>", desc := "(Lcom/example/commitwise/commitwise/Propagation;Lcom/example/commitwise/commitwise/Isolation;IZLjava/lang/String;)V", sig := { parameters := [(.object "com/example/commitwise/commitwise/Propagation"), (.object "com/example/commitwise/commitwise/Isolation"), .int, .boolean, (.object "java/lang/String")], returnType := none }, accessFlags := 1, code := some k12c0 }
def k12c1 : Code := { maxStack := 7, maxLocals := 2, code := prog_30_method_3_code, exceptionTable := #[], attributes := #[] }
def k12m1 : Method := { name := "withIsolation", desc := "(Lcom/example/commitwise/commitwise/Isolation;)Lcom/example/commitwise/commitwise/TransactionDefinition;", sig := { parameters := [(.object "com/example/commitwise/commitwise/Isolation")], returnType := some (.object "com/example/commitwise/commitwise/TransactionDefinition") }, accessFlags := 1, code := some k12c1 }
def k12c2 : Code := { maxStack := 1, maxLocals := 1, code := prog_30_method_10_code, exceptionTable := #[], attributes := #[] }
def k12m2 : Method := { name := "propagation", desc := "()Lcom/example/commitwise/commitwise/Propagation;", sig := { parameters := [], returnType := some (.object "com/example/commitwise/commitwise/Propagation") }, accessFlags := 1, code := some k12c2 }
def k12c3 : Code := { maxStack := 1, maxLocals := 1, code := prog_30_method_11_code, exceptionTable := #[], attributes := #[] }
def k12m3 : Method := { name := "isolation", desc := "()Lcom/example/commitwise/commitwise/Isolation;", sig := { parameters := [], returnType := some (.object "com/example/commitwise/commitwise/Isolation") }, accessFlags := 1, code := some k12c3 }
def k12c4 : Code := { maxStack := 1, maxLocals := 1, code := prog_30_method_12_code, exceptionTable := #[], attributes := #[] }
def k12m4 : Method := { name := "timeout", desc := "()I", sig := { parameters := [], returnType := some .int }, accessFlags := 1, code := some k12c4 }
def k12c5 : Code := { maxStack := 1, maxLocals := 1, code := prog_30_method_13_code, exceptionTable := #[], attributes := #[] }
def k12m5 : Method := { name := "readOnly", desc := "()Z", sig := { parameters := [], returnType := some .boolean }, accessFlags := 1, code := some k12c5 }
def k12c6 : Code := { maxStack := 1, maxLocals := 1, code := prog_30_method_14_code, exceptionTable := #[], attributes := #[] }
def k12m6 : Method := { name := "name", desc := "()Ljava/lang/String;", sig := { parameters := [], returnType := some (.object "java/lang/String") }, accessFlags := 1, code := some k12c6 }
/-- com/example/commitwise/commitwise/TransactionDefinition -/
def k12 : Class := { plain "com/example/commitwise/commitwise/TransactionDefinition" (some 11) with
  accessFlags := 49
  interfaces := #[]
  cf := some (fileOf pool12 17 #[] #[{ accessFlags := 1, nameIndex := 5, descriptorIndex := 48, attributes := #[] }, { accessFlags := 1, nameIndex := 85, descriptorIndex := 86, attributes := #[] }, { accessFlags := 1, nameIndex := 8, descriptorIndex := 96, attributes := #[] }, { accessFlags := 1, nameIndex := 16, descriptorIndex := 97, attributes := #[] }, { accessFlags := 1, nameIndex := 36, descriptorIndex := 94, attributes := #[] }, { accessFlags := 1, nameIndex := 40, descriptorIndex := 98, attributes := #[] }, { accessFlags := 1, nameIndex := 44, descriptorIndex := 93, attributes := #[] }] 49 2 #[] #[{ accessFlags := 18, nameIndex := 8, descriptorIndex := 30, attributes := #[] }, { accessFlags := 18, nameIndex := 16, descriptorIndex := 33, attributes := #[] }, { accessFlags := 18, nameIndex := 36, descriptorIndex := 37, attributes := #[] }, { accessFlags := 18, nameIndex := 40, descriptorIndex := 41, attributes := #[] }, { accessFlags := 18, nameIndex := 44, descriptorIndex := 45, attributes := #[] }, { accessFlags := 25, nameIndex := 74, descriptorIndex := 37, attributes := #[] }, { accessFlags := 25, nameIndex := 70, descriptorIndex := 73, attributes := #[] }])
  fields := #[{ name := "propagation", type := (.object "com/example/commitwise/commitwise/Propagation"), accessFlags := 18, slot := 0, constantValue := 0 }, { name := "isolation", type := (.object "com/example/commitwise/commitwise/Isolation"), accessFlags := 18, slot := 1, constantValue := 0 }, { name := "timeout", type := .int, accessFlags := 18, slot := 2, constantValue := 0 }, { name := "readOnly", type := .boolean, accessFlags := 18, slot := 3, constantValue := 0 }, { name := "name", type := (.object "java/lang/String"), accessFlags := 18, slot := 4, constantValue := 0 }, { name := "NO_TIMEOUT", type := .int, accessFlags := 25, slot := 0, constantValue := 0 }, { name := "DEFAULT", type := (.object "com/example/commitwise/commitwise/TransactionDefinition"), accessFlags := 25, slot := 1, constantValue := 0 }]
  methods := #[k12m0, k12m1, k12m2, k12m3, k12m4, k12m5, k12m6]
  instanceTypes := #[(.object "com/example/commitwise/commitwise/Propagation"), (.object "com/example/commitwise/commitwise/Isolation"), .int, .boolean, (.object "java/lang/String")]
  staticTypes := #[.int, (.object "com/example/commitwise/commitwise/TransactionDefinition")]
  resolved := Array.replicate 132 none
  statics := none }

def pool13 : Array CpInfo := pool [(2, .class_ 4), (1, u "java/lang/Object"), (0, u "<init>"), (0, u "()V"), (35, .class_ 44), (1, u "java/util/Objects"), (0, u "requireNonNull"), (48, u "(Ljava/lang/Object;Ljava/lang/String;)Ljava/lang/Object;")] 89

def k13m0 : Method := { name := "<init>", desc := "()V", sig := { parameters := [], returnType := none }, accessFlags := 2, code := none }
def k13c1 : Code := { maxStack := 3, maxLocals := 2, code := jdk_31_method_11_code, exceptionTable := #[], attributes := #[] }
def k13m1 : Method := { name := "requireNonNull", desc := "(Ljava/lang/Object;Ljava/lang/String;)Ljava/lang/Object;", sig := { parameters := [(.object "java/lang/Object"), (.object "java/lang/String")], returnType := some (.object "java/lang/Object") }, accessFlags := 9, code := some k13c1 }
/-- java/util/Objects -/
def k13 : Class := { plain "java/util/Objects" (some 0) with
  accessFlags := 49
  interfaces := #[]
  cf := some (fileOf pool13 42 #[] #[{ accessFlags := 2, nameIndex := 5, descriptorIndex := 6, attributes := #[] }, { accessFlags := 9, nameIndex := 45, descriptorIndex := 94, attributes := #[] }] 49 2 #[] #[])
  fields := #[]
  methods := #[k13m0, k13m1]
  instanceTypes := #[]
  staticTypes := #[]
  resolved := Array.replicate 184 none
  statics := none }

def pool14 : Array CpInfo := pool [(6, .class_ 8), (1, u "java/lang/Object"), (0, u "<init>"), (0, u "()V"), (1, .class_ 14), (1, u "java/lang/StringUTF16"), (31, u "$assertionsDisabled"), (0, u "Z"), (13, u "HI_BYTE_SHIFT"), (0, u "I"), (2, u "LO_BYTE_SHIFT"), (49, .methodref 12 116), (0, .nameAndType 117 118), (0, u "compress"), (0, u "([CI[BII)I"), (3, u "([CII)[B"), (138, u "coderFromArrayLen"), (0, u "([BI)B"), (106, .class_ 371), (1, u "java/lang/StringUTF16$LinesSpliterator"), (58, u "MAX_LENGTH"), (196, .class_ 628), (0, u "java/lang/StringUTF16$CodePointsSpliterator"), (0, .class_ 630), (0, u "java/lang/StringUTF16$CharsSpliterator")] 4

def k14m0 : Method := { name := "<init>", desc := "()V", sig := { parameters := [], returnType := none }, accessFlags := 0, code := none }
def k14c1 : Code := { maxStack := 2, maxLocals := 2, code := jdk_52_method_15_code, exceptionTable := #[], attributes := #[] }
def k14m1 : Method := { name := "coderFromArrayLen", desc := "([BI)B", sig := { parameters := [(.array .byte), .int], returnType := some .byte }, accessFlags := 8, code := some k14c1 }
def k14c2 : Code := { maxStack := 5, maxLocals := 6, code := jdk_52_method_16_code, exceptionTable := #[], attributes := #[] }
def k14m2 : Method := { name := "compress", desc := "([CII)[B", sig := { parameters := [(.array .char), .int, .int], returnType := some (.array .byte) }, accessFlags := 9, code := some k14c2 }
def k14c3 : Code := { maxStack := 3, maxLocals := 7, code := jdk_52_method_21_code, exceptionTable := #[], attributes := #[] }
def k14m3 : Method := { name := "compress", desc := "([CI[BII)I", sig := { parameters := [(.array .char), .int, (.array .byte), .int, .int], returnType := some .int }, accessFlags := 9, code := some k14c3 }
/-- java/lang/StringUTF16 -/
def k14 : Class := { plain "java/lang/StringUTF16" (some 0) with
  accessFlags := 48
  interfaces := #[]
  cf := some (fileOf pool14 12 #[.nestMembers #[627, 629, 369]] #[{ accessFlags := 0, nameIndex := 9, descriptorIndex := 10, attributes := #[] }, { accessFlags := 8, nameIndex := 261, descriptorIndex := 262, attributes := #[] }, { accessFlags := 9, nameIndex := 117, descriptorIndex := 122, attributes := #[] }, { accessFlags := 9, nameIndex := 117, descriptorIndex := 118, attributes := #[] }] 48 6 #[] #[{ accessFlags := 26, nameIndex := 61, descriptorIndex := 62, attributes := #[] }, { accessFlags := 26, nameIndex := 65, descriptorIndex := 62, attributes := #[] }, { accessFlags := 24, nameIndex := 430, descriptorIndex := 62, attributes := #[] }, { accessFlags := 4120, nameIndex := 46, descriptorIndex := 47, attributes := #[] }])
  fields := #[{ name := "HI_BYTE_SHIFT", type := .int, accessFlags := 26, slot := 0, constantValue := 0 }, { name := "LO_BYTE_SHIFT", type := .int, accessFlags := 26, slot := 1, constantValue := 0 }, { name := "MAX_LENGTH", type := .int, accessFlags := 24, slot := 2, constantValue := 0 }, { name := "$assertionsDisabled", type := .boolean, accessFlags := 4120, slot := 3, constantValue := 0 }]
  methods := #[k14m0, k14m1, k14m2, k14m3]
  instanceTypes := #[]
  staticTypes := #[.int, .int, .int, .boolean]
  resolved := Array.replicate 635 none
  statics := none }

def pool15 : Array CpInfo := pool [(4, .class_ 6), (1, u "java/lang/Object"), (0, u "<init>"), (0, u "()V"), (5, .class_ 16), (1, u "java/lang/StringLatin1"), (73, u "canEncode"), (14, u "(C)Z"), (15, u "$assertionsDisabled"), (0, u "Z"), (98, .class_ 223), (1, u "java/lang/StringLatin1$LinesSpliterator"), (156, u "toBytes"), (1, u "(C)[B"), (7, .class_ 391), (0, u "java/lang/StringLatin1$CharsSpliterator")] 3

def k15m0 : Method := { name := "<init>", desc := "()V", sig := { parameters := [], returnType := none }, accessFlags := 0, code := none }
def k15c1 : Code := { maxStack := 2, maxLocals := 1, code := jdk_43_method_3_code, exceptionTable := #[], attributes := #[] }
def k15m1 : Method := { name := "canEncode", desc := "(C)Z", sig := { parameters := [.char], returnType := some .boolean }, accessFlags := 9, code := some k15c1 }
def k15c2 : Code := { maxStack := 4, maxLocals := 1, code := jdk_43_method_46_code, exceptionTable := #[], attributes := #[] }
def k15m2 : Method := { name := "toBytes", desc := "(C)[B", sig := { parameters := [.char], returnType := some (.array .byte) }, accessFlags := 9, code := some k15c2 }
/-- java/lang/StringLatin1 -/
def k15 : Class := { plain "java/lang/StringLatin1" (some 0) with
  accessFlags := 48
  interfaces := #[]
  cf := some (fileOf pool15 14 #[.nestMembers #[390, 221]] #[{ accessFlags := 0, nameIndex := 7, descriptorIndex := 8, attributes := #[] }, { accessFlags := 9, nameIndex := 90, descriptorIndex := 105, attributes := #[] }, { accessFlags := 9, nameIndex := 380, descriptorIndex := 382, attributes := #[] }] 48 4 #[] #[{ accessFlags := 4120, nameIndex := 121, descriptorIndex := 122, attributes := #[] }])
  fields := #[{ name := "$assertionsDisabled", type := .boolean, accessFlags := 4120, slot := 0, constantValue := 0 }]
  methods := #[k15m0, k15m1, k15m2]
  instanceTypes := #[]
  staticTypes := #[.boolean]
  resolved := Array.replicate 395 none
  statics := none }

def pool16 : Array CpInfo := pool [(2, .class_ 4), (1, u "java/lang/Object"), (0, u "<init>"), (0, u "()V"), (17, .class_ 26), (1, u "jdk/internal/util/Preconditions"), (28, .class_ 56), (0, u "jdk/internal/util/Preconditions$4"), (57, .class_ 115), (0, u "jdk/internal/util/Preconditions$1"), (7, u "SIOOBE_FORMATTER"), (0, u "Ljava/util/function/BiFunction;"), (0, .class_ 126), (0, u "jdk/internal/util/Preconditions$2"), (3, u "AIOOBE_FORMATTER"), (0, .class_ 132), (0, u "jdk/internal/util/Preconditions$3"), (3, u "IOOBE_FORMATTER")] 57

def k16m0 : Method := { name := "<init>", desc := "()V", sig := { parameters := [], returnType := none }, accessFlags := 1, code := none }
/-- jdk/internal/util/Preconditions -/
def k16 : Class := { plain "jdk/internal/util/Preconditions" (some 0) with
  accessFlags := 33
  interfaces := #[]
  cf := some (fileOf pool16 24 #[.nestMembers #[55, 131, 125, 114]] #[{ accessFlags := 1, nameIndex := 5, descriptorIndex := 6, attributes := #[] }] 33 2 #[] #[{ accessFlags := 25, nameIndex := 123, descriptorIndex := 124, attributes := #[] }, { accessFlags := 25, nameIndex := 130, descriptorIndex := 124, attributes := #[] }, { accessFlags := 25, nameIndex := 136, descriptorIndex := 124, attributes := #[] }])
  fields := #[{ name := "SIOOBE_FORMATTER", type := (.object "java/util/function/BiFunction"), accessFlags := 25, slot := 0, constantValue := 0 }, { name := "AIOOBE_FORMATTER", type := (.object "java/util/function/BiFunction"), accessFlags := 25, slot := 1, constantValue := 0 }, { name := "IOOBE_FORMATTER", type := (.object "java/util/function/BiFunction"), accessFlags := 25, slot := 2, constantValue := 0 }]
  methods := #[k16m0]
  instanceTypes := #[]
  staticTypes := #[(.object "java/util/function/BiFunction"), (.object "java/util/function/BiFunction"), (.object "java/util/function/BiFunction")]
  resolved := Array.replicate 194 none
  statics := some 3 }

def pool17 : Array CpInfo := pool [(9, u "<init>"), (6, .class_ 18), (1, u "java/lang/Object"), (0, u "()V"), (1, .class_ 23), (1, u "jdk/internal/util/ArraysSupport"), (0, u "LOG2_ARRAY_LONG_INDEX_SCALE"), (0, u "I"), (2, u "U"), (0, u "Ljdk/internal/misc/Unsafe;"), (8, u "BIG_ENDIAN"), (0, u "Z"), (8, u "LOG2_BYTE_BIT_SIZE"), (4, u "LOG2_ARRAY_INT_INDEX_SCALE"), (54, u "JLA"), (0, u "Ljdk/internal/access/JavaLangAccess;"), (11, u "LOG2_ARRAY_BOOLEAN_INDEX_SCALE"), (9, u "LOG2_ARRAY_BYTE_INDEX_SCALE"), (5, u "LOG2_ARRAY_CHAR_INDEX_SCALE"), (5, u "LOG2_ARRAY_SHORT_INDEX_SCALE"), (18, u "LOG2_ARRAY_FLOAT_INDEX_SCALE"), (24, u "LOG2_ARRAY_DOUBLE_INDEX_SCALE"), (89, u "T_BOOLEAN"), (2, u "T_CHAR"), (1, u "T_FLOAT"), (1, u "T_DOUBLE"), (1, u "T_BYTE"), (1, u "T_SHORT"), (1, u "T_INT"), (1, u "T_LONG"), (1, u "SOFT_MAX_ARRAY_LENGTH")] 83

def k17m0 : Method := { name := "<init>", desc := "()V", sig := { parameters := [], returnType := none }, accessFlags := 2, code := none }
/-- jdk/internal/util/ArraysSupport -/
def k17 : Class := { plain "jdk/internal/util/ArraysSupport" (some 0) with
  accessFlags := 33
  interfaces := #[]
  cf := some (fileOf pool17 21 #[] #[{ accessFlags := 2, nameIndex := 9, descriptorIndex := 19, attributes := #[] }] 33 16 #[] #[{ accessFlags := 24, nameIndex := 28, descriptorIndex := 29, attributes := #[] }, { accessFlags := 26, nameIndex := 38, descriptorIndex := 39, attributes := #[] }, { accessFlags := 25, nameIndex := 121, descriptorIndex := 25, attributes := #[] }, { accessFlags := 25, nameIndex := 131, descriptorIndex := 25, attributes := #[] }, { accessFlags := 25, nameIndex := 137, descriptorIndex := 25, attributes := #[] }, { accessFlags := 25, nameIndex := 143, descriptorIndex := 25, attributes := #[] }, { accessFlags := 25, nameIndex := 53, descriptorIndex := 25, attributes := #[] }, { accessFlags := 25, nameIndex := 24, descriptorIndex := 25, attributes := #[] }, { accessFlags := 25, nameIndex := 162, descriptorIndex := 25, attributes := #[] }, { accessFlags := 25, nameIndex := 187, descriptorIndex := 25, attributes := #[] }, { accessFlags := 26, nameIndex := 48, descriptorIndex := 25, attributes := #[] }, { accessFlags := 25, nameIndex := 277, descriptorIndex := 25, attributes := #[] }, { accessFlags := 25, nameIndex := 280, descriptorIndex := 25, attributes := #[] }, { accessFlags := 25, nameIndex := 282, descriptorIndex := 25, attributes := #[] }, { accessFlags := 25, nameIndex := 284, descriptorIndex := 25, attributes := #[] }, { accessFlags := 25, nameIndex := 286, descriptorIndex := 25, attributes := #[] }, { accessFlags := 25, nameIndex := 288, descriptorIndex := 25, attributes := #[] }, { accessFlags := 25, nameIndex := 290, descriptorIndex := 25, attributes := #[] }, { accessFlags := 25, nameIndex := 292, descriptorIndex := 25, attributes := #[] }, { accessFlags := 26, nameIndex := 108, descriptorIndex := 109, attributes := #[] }, { accessFlags := 25, nameIndex := 294, descriptorIndex := 25, attributes := #[] }])
  fields := #[{ name := "U", type := (.object "jdk/internal/misc/Unsafe"), accessFlags := 24, slot := 0, constantValue := 0 }, { name := "BIG_ENDIAN", type := .boolean, accessFlags := 26, slot := 1, constantValue := 0 }, { name := "LOG2_ARRAY_BOOLEAN_INDEX_SCALE", type := .int, accessFlags := 25, slot := 2, constantValue := 0 }, { name := "LOG2_ARRAY_BYTE_INDEX_SCALE", type := .int, accessFlags := 25, slot := 3, constantValue := 0 }, { name := "LOG2_ARRAY_CHAR_INDEX_SCALE", type := .int, accessFlags := 25, slot := 4, constantValue := 0 }, { name := "LOG2_ARRAY_SHORT_INDEX_SCALE", type := .int, accessFlags := 25, slot := 5, constantValue := 0 }, { name := "LOG2_ARRAY_INT_INDEX_SCALE", type := .int, accessFlags := 25, slot := 6, constantValue := 0 }, { name := "LOG2_ARRAY_LONG_INDEX_SCALE", type := .int, accessFlags := 25, slot := 7, constantValue := 0 }, { name := "LOG2_ARRAY_FLOAT_INDEX_SCALE", type := .int, accessFlags := 25, slot := 8, constantValue := 0 }, { name := "LOG2_ARRAY_DOUBLE_INDEX_SCALE", type := .int, accessFlags := 25, slot := 9, constantValue := 0 }, { name := "LOG2_BYTE_BIT_SIZE", type := .int, accessFlags := 26, slot := 10, constantValue := 0 }, { name := "T_BOOLEAN", type := .int, accessFlags := 25, slot := 11, constantValue := 0 }, { name := "T_CHAR", type := .int, accessFlags := 25, slot := 12, constantValue := 0 }, { name := "T_FLOAT", type := .int, accessFlags := 25, slot := 13, constantValue := 0 }, { name := "T_DOUBLE", type := .int, accessFlags := 25, slot := 14, constantValue := 0 }, { name := "T_BYTE", type := .int, accessFlags := 25, slot := 15, constantValue := 0 }, { name := "T_SHORT", type := .int, accessFlags := 25, slot := 16, constantValue := 0 }, { name := "T_INT", type := .int, accessFlags := 25, slot := 17, constantValue := 0 }, { name := "T_LONG", type := .int, accessFlags := 25, slot := 18, constantValue := 0 }, { name := "JLA", type := (.object "jdk/internal/access/JavaLangAccess"), accessFlags := 26, slot := 19, constantValue := 0 }, { name := "SOFT_MAX_ARRAY_LENGTH", type := .int, accessFlags := 25, slot := 20, constantValue := 0 }]
  methods := #[k17m0]
  instanceTypes := #[]
  staticTypes := #[(.object "jdk/internal/misc/Unsafe"), .boolean, .int, .int, .int, .int, .int, .int, .int, .int, .int, .int, .int, .int, .int, .int, .int, .int, .int, (.object "jdk/internal/access/JavaLangAccess"), .int]
  resolved := Array.replicate 378 none
  statics := none }

def pool18 : Array CpInfo := pool [(1, u "java/lang/Cloneable"), (0, .class_ 1), (0, u "java/lang/Object"), (0, .class_ 3)] 3

/-- java/lang/Cloneable -/
def k18 : Class := { plain "java/lang/Cloneable" (some 0) with
  accessFlags := 1537
  interfaces := #[]
  cf := some (fileOf pool18 2 #[] #[] 1537 4 #[] #[])
  fields := #[]
  methods := #[]
  instanceTypes := #[]
  staticTypes := #[]
  resolved := Array.replicate 8 none
  statics := none }

/-- the primitive byte -/
def k19 : Class := { plain "byte" none with kind := .primitive 'B', accessFlags := 0x411 }
/-- [B -/
def k20 : Class := { plain "[B" (some 0) with kind := .array 19 .byte, interfaces := #[18, 4], accessFlags := 1041 }

/-- the primitive char -/
def k21 : Class := { plain "char" none with kind := .primitive 'C', accessFlags := 0x411 }
/-- [C -/
def k22 : Class := { plain "[C" (some 0) with kind := .array 21 .char, interfaces := #[18, 4], accessFlags := 1041 }

/-- the primitive int -/
def k23 : Class := { plain "int" none with kind := .primitive 'I', accessFlags := 0x411 }
/-- [I -/
def k24 : Class := { plain "[I" (some 0) with kind := .array 23 .int, interfaces := #[18, 4], accessFlags := 1041 }

def heap : Heap := #[{ cls := 6, slots := #[.ref 4, .ref 12, .ref 9, .ref 13, .ref 7, .ref 15, .ref 14, .null], vm := .statics 6 },
  { cls := 7, slots := #[.ref 8, .ref 11, .ref 6, .ref 5, .ref 10, .null], vm := .statics 7 },
  { cls := 10, slots := #[.long 0, .int 1, .null, .int 0, .null, .int 0, .int 0], vm := .statics 10 },
  { cls := 16, slots := #[.null, .null, .null], vm := .statics 16 },
  { cls := 6, slots := #[.null, .int 0, .int 0, .int 0], vm := .none },
  { cls := 7, slots := #[.null, .int 0, .int 0, .int 0], vm := .none },
  { cls := 7, slots := #[.null, .int 0, .int 0, .int 0], vm := .none },
  { cls := 6, slots := #[.null, .int 0, .int 0, .int 0], vm := .none },
  { cls := 7, slots := #[.null, .int 0, .int 0, .int 0], vm := .none },
  { cls := 6, slots := #[.null, .int 0, .int 0, .int 0], vm := .none },
  { cls := 7, slots := #[.null, .int 0, .int 0, .int 0], vm := .none },
  { cls := 7, slots := #[.null, .int 0, .int 0, .int 0], vm := .none },
  { cls := 6, slots := #[.null, .int 0, .int 0, .int 0], vm := .none },
  { cls := 6, slots := #[.null, .int 0, .int 0, .int 0], vm := .none },
  { cls := 6, slots := #[.null, .int 0, .int 0, .int 0], vm := .none },
  { cls := 6, slots := #[.null, .int 0, .int 0, .int 0], vm := .none }]
def classes : Array Class := #[k0, k1, k2, k3, k4, k5, k6, k7, k8, k9, k10, k11, k12, k13, k14, k15, k16, k17, k18, k19, k20, k21, k22, k23, k24]
def interned : List (Array UInt16 × Addr) := []
def slotsUsed : Nat := 72
def theMethod : MethodId := ⟨1, 4⟩
def args0 : Array Value := #[.int 0, .int 0, .int 0, .int 1, .int 0, .int 0]
def aboutOver (below : List Frame) : State where
  vm := { classes := classes, interned := interned.toArray }
  heap := heap
  slotsUsed := slotsUsed
  threads := #[{ frames := .invoking theMethod args0 :: below }]
def below0 : List Frame := [.native { method := ⟨0, 0⟩, args := #[] }]
def about1 : State := aboutOver below0
def p0 : Program := .bare "" "" ""
def e0 : Env := launch0.env 0 0 0
theorem w_frames : about1.frames = Frame.invoking theMethod args0 :: below0 := rfl
set_option maxRecDepth 65536 in
theorem w_args : argsFit about1.vm theMethod args0 = true := by decide +kernel
set_option maxRecDepth 65536 in
theorem w_heap : heapFits about1 = true := by decide +kernel
set_option maxRecDepth 65536 in
theorem w_runnable : about1.curStatus? = some .runnable := by decide +kernel
set_option maxRecDepth 65536 in
theorem w_alone : about1.alone = true := by decide +kernel
set_option maxRecDepth 65536 in
theorem w_named : about1.methodNamed? x = some theMethod := by decide +kernel
set_option maxRecDepth 65536 in
theorem w_hears : about1.hears theMethod below0 = true := by decide +kernel
set_option maxRecDepth 65536 in
theorem w_ripe : about1.ripe theMethod args0 below0 = true := by decide +kernel
theorem w_running : about1.status = .running := rfl
set_option maxRecDepth 65536 in
theorem w_room : about1.hasRoom e0.platform room_1 = true :=
  launch0.hasRoom_least _ room_1 (by decide +kernel) (by decide +kernel) (by decide +kernel) (by decide +kernel) (by decide +kernel) (by decide +kernel)
theorem allAtoms_all (ts : List Jvm.Cond) (a : Array Jvm.Value) (st : Jvm.State) : (allAtoms ts).before a st = ts.all (fun c => c.before a st) := by
  induction ts with
  | nil => rfl
  | cons c t ih =>
    show (Jvm.Cond.and c (allAtoms t)).before a st = _
    rw [Jvm.Cond.before_and, ih, List.all_cons]
def words1 : List Jvm.Cond := Jvm.Cond.code x code maxLocals ret :: tables_1
/-- a 'code' word, met by the world's own term for the bytes: nothing is compared byte by byte -/
theorem code_word {y : MethodName} {bytes : ByteArray} {mx : Nat} {rt : Option FieldType} {a : Array Value} {s : State} {m : MethodId} {meth : Method} {c : Code} (h1 : s.methodNamed? y = some m) (h2 : s.vm.method? m = some meth) (h3 : meth.code = some c) (h4 : c.code = bytes)
    (h5 : (c.maxLocals == mx && c.exceptionTable.isEmpty && decide (c.maxStack ≤ mostOperands) && decide (meth.sig.returnType = rt) && !meth.locks && decide (parseMethodDescriptor y.desc = some meth.sig)) = true) : (Jvm.Cond.code y bytes mx rt).before a s = true := by
  simp only [Bool.and_eq_true, beq_iff_eq, Bool.not_eq_true', decide_eq_true_eq] at h5
  obtain ⟨⟨⟨⟨⟨g1, g2⟩, g3⟩, g4⟩, g5⟩, g6⟩ := h5
  simp [Cond.before, Cond.holds, Cond.value, h1, h2, h3, h4, g1, g2, g3, g4, g5, g6]
def isCode : Jvm.Cond → Bool
  | .code _ _ _ _ => true
  | _ => false
theorem all_split {L : List Jvm.Cond} {P : Jvm.Cond → Bool} (h1 : L.all (fun c => isCode c || P c) = true) (h2 : ∀ c ∈ L.filter isCode, P c = true) : L.all P = true := by
  refine List.all_eq_true.mpr fun c hc => ?_
  have h := List.all_eq_true.mp h1 c hc
  rcases Bool.eq_false_or_eq_true (isCode c) with hi | hi
  · exact h2 c (List.mem_filter.mpr ⟨hc, hi⟩)
  · simpa [hi] using h
set_option maxRecDepth 65536 in
theorem w_c0 : (Jvm.Cond.code x code maxLocals ret).before args0 about1 = true := code_word (m := ⟨1, 4⟩) (meth := k1m4) (c := k1c4) (by decide +kernel) rfl rfl rfl (by decide +kernel)
set_option maxRecDepth 65536 in
theorem w_c1 : (Jvm.Cond.code ({ cls := "com/example/commitwise/commitwise/TransactionDefinitionWithIsolationPinLaw", name := "prop", desc := "(I)Lcom/example/commitwise/commitwise/Propagation;" } : Jvm.MethodName) method_2_code (2 : Nat) (Option.some (Jvm.ClassFile.FieldType.object "com/example/commitwise/commitwise/Propagation"))).before args0 about1 = true := code_word (m := ⟨1, 1⟩) (meth := k1m1) (c := k1c1) (by decide +kernel) rfl rfl rfl (by decide +kernel)
set_option maxRecDepth 65536 in
theorem w_c2 : (Jvm.Cond.code ({ cls := "com/example/commitwise/commitwise/TransactionDefinitionWithIsolationPinLaw", name := "iso", desc := "(I)Lcom/example/commitwise/commitwise/Isolation;" } : Jvm.MethodName) method_3_code (2 : Nat) (Option.some (Jvm.ClassFile.FieldType.object "com/example/commitwise/commitwise/Isolation"))).before args0 about1 = true := code_word (m := ⟨1, 2⟩) (meth := k1m2) (c := k1c2) (by decide +kernel) rfl rfl rfl (by decide +kernel)
set_option maxRecDepth 65536 in
theorem w_c3 : (Jvm.Cond.code ({ cls := "com/example/commitwise/commitwise/TransactionDefinitionWithIsolationPinLaw", name := "name", desc := "(II)Ljava/lang/String;" } : Jvm.MethodName) method_4_code (7 : Nat) (Option.some (Jvm.ClassFile.FieldType.object "java/lang/String"))).before args0 about1 = true := code_word (m := ⟨1, 3⟩) (meth := k1m3) (c := k1c3) (by decide +kernel) rfl rfl rfl (by decide +kernel)
set_option maxRecDepth 65536 in
theorem w_c4 : (Jvm.Cond.code ({ cls := "java/lang/String", name := "<init>", desc := "([C)V" } : Jvm.MethodName) jdk_42_method_3_code (2 : Nat) (Option.none : Option Jvm.ClassFile.FieldType)).before args0 about1 = true := code_word (m := ⟨10, 1⟩) (meth := k10m1) (c := k10c1) (by decide +kernel) rfl rfl rfl (by decide +kernel)
set_option maxRecDepth 65536 in
theorem w_c5 : (Jvm.Cond.code ({ cls := "java/lang/String", name := "<init>", desc := "([CIILjava/lang/Void;)V" } : Jvm.MethodName) jdk_42_method_149_code (6 : Nat) (Option.none : Option Jvm.ClassFile.FieldType)).before args0 about1 = true := code_word (m := ⟨10, 4⟩) (meth := k10m4) (c := k10c4) (by decide +kernel) rfl rfl rfl (by decide +kernel)
set_option maxRecDepth 65536 in
theorem w_c6 : (Jvm.Cond.code ({ cls := "java/lang/Object", name := "<init>", desc := "()V" } : Jvm.MethodName) object_method_1_code (1 : Nat) (Option.none : Option Jvm.ClassFile.FieldType)).before args0 about1 = true := code_word (m := ⟨0, 0⟩) (meth := k0m0) (c := k0c0) (by decide +kernel) rfl rfl rfl (by decide +kernel)
set_option maxRecDepth 65536 in
theorem w_c7 : (Jvm.Cond.code ({ cls := "com/example/commitwise/commitwise/TransactionDefinition", name := "<init>", desc := "(Lcom/example/commitwise/commitwise/Propagation;Lcom/example/commitwise/commitwise/Isolation;IZLjava/lang/String;)V" } : Jvm.MethodName) prog_30_method_1_code (6 : Nat) (Option.none : Option Jvm.ClassFile.FieldType)).before args0 about1 = true := code_word (m := ⟨12, 0⟩) (meth := k12m0) (c := k12c0) (by decide +kernel) rfl rfl rfl (by decide +kernel)
set_option maxRecDepth 65536 in
theorem w_c8 : (Jvm.Cond.code ({ cls := "java/lang/Record", name := "<init>", desc := "()V" } : Jvm.MethodName) jdk_30_method_1_code (1 : Nat) (Option.none : Option Jvm.ClassFile.FieldType)).before args0 about1 = true := code_word (m := ⟨11, 0⟩) (meth := k11m0) (c := k11c0) (by decide +kernel) rfl rfl rfl (by decide +kernel)
set_option maxRecDepth 65536 in
theorem w_c9 : (Jvm.Cond.code ({ cls := "java/util/Objects", name := "requireNonNull", desc := "(Ljava/lang/Object;Ljava/lang/String;)Ljava/lang/Object;" } : Jvm.MethodName) jdk_31_method_11_code (2 : Nat) (Option.some (Jvm.ClassFile.FieldType.object "java/lang/Object"))).before args0 about1 = true := code_word (m := ⟨13, 1⟩) (meth := k13m1) (c := k13c1) (by decide +kernel) rfl rfl rfl (by decide +kernel)
set_option maxRecDepth 65536 in
theorem w_c10 : (Jvm.Cond.code ({ cls := "com/example/commitwise/commitwise/TransactionDefinition", name := "withIsolation", desc := "(Lcom/example/commitwise/commitwise/Isolation;)Lcom/example/commitwise/commitwise/TransactionDefinition;" } : Jvm.MethodName) prog_30_method_3_code (2 : Nat) (Option.some (Jvm.ClassFile.FieldType.object "com/example/commitwise/commitwise/TransactionDefinition"))).before args0 about1 = true := code_word (m := ⟨12, 1⟩) (meth := k12m1) (c := k12c1) (by decide +kernel) rfl rfl rfl (by decide +kernel)
set_option maxRecDepth 65536 in
theorem w_c11 : (Jvm.Cond.code ({ cls := "com/example/commitwise/commitwise/TransactionDefinition", name := "name", desc := "()Ljava/lang/String;" } : Jvm.MethodName) prog_30_method_14_code (1 : Nat) (Option.some (Jvm.ClassFile.FieldType.object "java/lang/String"))).before args0 about1 = true := code_word (m := ⟨12, 6⟩) (meth := k12m6) (c := k12c6) (by decide +kernel) rfl rfl rfl (by decide +kernel)
set_option maxRecDepth 65536 in
theorem w_c12 : (Jvm.Cond.code ({ cls := "java/lang/String", name := "equals", desc := "(Ljava/lang/Object;)Z" } : Jvm.MethodName) jdk_42_method_66_code (3 : Nat) (Option.some Jvm.ClassFile.FieldType.boolean)).before args0 about1 = true := code_word (m := ⟨10, 2⟩) (meth := k10m2) (c := k10c2) (by decide +kernel) rfl rfl rfl (by decide +kernel)
set_option maxRecDepth 65536 in
theorem w_c13 : (Jvm.Cond.code ({ cls := "com/example/commitwise/commitwise/TransactionDefinition", name := "propagation", desc := "()Lcom/example/commitwise/commitwise/Propagation;" } : Jvm.MethodName) prog_30_method_10_code (1 : Nat) (Option.some (Jvm.ClassFile.FieldType.object "com/example/commitwise/commitwise/Propagation"))).before args0 about1 = true := code_word (m := ⟨12, 2⟩) (meth := k12m2) (c := k12c2) (by decide +kernel) rfl rfl rfl (by decide +kernel)
set_option maxRecDepth 65536 in
theorem w_c14 : (Jvm.Cond.code ({ cls := "com/example/commitwise/commitwise/TransactionDefinition", name := "isolation", desc := "()Lcom/example/commitwise/commitwise/Isolation;" } : Jvm.MethodName) prog_30_method_11_code (1 : Nat) (Option.some (Jvm.ClassFile.FieldType.object "com/example/commitwise/commitwise/Isolation"))).before args0 about1 = true := code_word (m := ⟨12, 3⟩) (meth := k12m3) (c := k12c3) (by decide +kernel) rfl rfl rfl (by decide +kernel)
set_option maxRecDepth 65536 in
theorem w_c15 : (Jvm.Cond.code ({ cls := "com/example/commitwise/commitwise/TransactionDefinition", name := "timeout", desc := "()I" } : Jvm.MethodName) prog_30_method_12_code (1 : Nat) (Option.some Jvm.ClassFile.FieldType.int)).before args0 about1 = true := code_word (m := ⟨12, 4⟩) (meth := k12m4) (c := k12c4) (by decide +kernel) rfl rfl rfl (by decide +kernel)
set_option maxRecDepth 65536 in
theorem w_c16 : (Jvm.Cond.code ({ cls := "com/example/commitwise/commitwise/TransactionDefinition", name := "readOnly", desc := "()Z" } : Jvm.MethodName) prog_30_method_13_code (1 : Nat) (Option.some Jvm.ClassFile.FieldType.boolean)).before args0 about1 = true := code_word (m := ⟨12, 5⟩) (meth := k12m5) (c := k12c5) (by decide +kernel) rfl rfl rfl (by decide +kernel)
set_option maxRecDepth 65536 in
theorem w_c17 : (Jvm.Cond.code ({ cls := "java/lang/StringUTF16", name := "compress", desc := "([CII)[B" } : Jvm.MethodName) jdk_52_method_16_code (6 : Nat) (Option.some (Jvm.ClassFile.FieldType.array Jvm.ClassFile.FieldType.byte))).before args0 about1 = true := code_word (m := ⟨14, 2⟩) (meth := k14m2) (c := k14c2) (by decide +kernel) rfl rfl rfl (by decide +kernel)
set_option maxRecDepth 65536 in
theorem w_c18 : (Jvm.Cond.code ({ cls := "java/lang/StringUTF16", name := "compress", desc := "([CI[BII)I" } : Jvm.MethodName) jdk_52_method_21_code (7 : Nat) (Option.some Jvm.ClassFile.FieldType.int)).before args0 about1 = true := code_word (m := ⟨14, 3⟩) (meth := k14m3) (c := k14c3) (by decide +kernel) rfl rfl rfl (by decide +kernel)
set_option maxRecDepth 65536 in
theorem w_c19 : (Jvm.Cond.code ({ cls := "java/lang/StringUTF16", name := "coderFromArrayLen", desc := "([BI)B" } : Jvm.MethodName) jdk_52_method_15_code (2 : Nat) (Option.some Jvm.ClassFile.FieldType.byte)).before args0 about1 = true := code_word (m := ⟨14, 1⟩) (meth := k14m1) (c := k14c1) (by decide +kernel) rfl rfl rfl (by decide +kernel)
set_option maxRecDepth 65536 in
theorem w_c20 : (Jvm.Cond.code ({ cls := "java/lang/String", name := "valueOf", desc := "(C)Ljava/lang/String;" } : Jvm.MethodName) jdk_42_method_139_code (1 : Nat) (Option.some (Jvm.ClassFile.FieldType.object "java/lang/String"))).before args0 about1 = true := code_word (m := ⟨10, 3⟩) (meth := k10m3) (c := k10c3) (by decide +kernel) rfl rfl rfl (by decide +kernel)
set_option maxRecDepth 65536 in
theorem w_c21 : (Jvm.Cond.code ({ cls := "java/lang/StringLatin1", name := "canEncode", desc := "(C)Z" } : Jvm.MethodName) jdk_43_method_3_code (1 : Nat) (Option.some Jvm.ClassFile.FieldType.boolean)).before args0 about1 = true := code_word (m := ⟨15, 1⟩) (meth := k15m1) (c := k15c1) (by decide +kernel) rfl rfl rfl (by decide +kernel)
set_option maxRecDepth 65536 in
theorem w_c22 : (Jvm.Cond.code ({ cls := "java/lang/StringLatin1", name := "toBytes", desc := "(C)[B" } : Jvm.MethodName) jdk_43_method_46_code (1 : Nat) (Option.some (Jvm.ClassFile.FieldType.array Jvm.ClassFile.FieldType.byte))).before args0 about1 = true := code_word (m := ⟨15, 2⟩) (meth := k15m2) (c := k15c2) (by decide +kernel) rfl rfl rfl (by decide +kernel)
set_option maxRecDepth 65536 in
theorem w_c23 : (Jvm.Cond.code ({ cls := "java/lang/String", name := "<init>", desc := "([BB)V" } : Jvm.MethodName) jdk_42_method_151_code (3 : Nat) (Option.none : Option Jvm.ClassFile.FieldType)).before args0 about1 = true := code_word (m := ⟨10, 5⟩) (meth := k10m5) (c := k10c5) (by decide +kernel) rfl rfl rfl (by decide +kernel)
def codes1 : List Jvm.Cond := [Jvm.Cond.code x code maxLocals ret, Jvm.Cond.code ({ cls := "com/example/commitwise/commitwise/TransactionDefinitionWithIsolationPinLaw", name := "prop", desc := "(I)Lcom/example/commitwise/commitwise/Propagation;" } : Jvm.MethodName) method_2_code (2 : Nat) (Option.some (Jvm.ClassFile.FieldType.object "com/example/commitwise/commitwise/Propagation")), Jvm.Cond.code ({ cls := "com/example/commitwise/commitwise/TransactionDefinitionWithIsolationPinLaw", name := "iso", desc := "(I)Lcom/example/commitwise/commitwise/Isolation;" } : Jvm.MethodName) method_3_code (2 : Nat) (Option.some (Jvm.ClassFile.FieldType.object "com/example/commitwise/commitwise/Isolation")), Jvm.Cond.code ({ cls := "com/example/commitwise/commitwise/TransactionDefinitionWithIsolationPinLaw", name := "name", desc := "(II)Ljava/lang/String;" } : Jvm.MethodName) method_4_code (7 : Nat) (Option.some (Jvm.ClassFile.FieldType.object "java/lang/String")), Jvm.Cond.code ({ cls := "java/lang/String", name := "<init>", desc := "([C)V" } : Jvm.MethodName) jdk_42_method_3_code (2 : Nat) (Option.none : Option Jvm.ClassFile.FieldType), Jvm.Cond.code ({ cls := "java/lang/String", name := "<init>", desc := "([CIILjava/lang/Void;)V" } : Jvm.MethodName) jdk_42_method_149_code (6 : Nat) (Option.none : Option Jvm.ClassFile.FieldType), Jvm.Cond.code ({ cls := "java/lang/Object", name := "<init>", desc := "()V" } : Jvm.MethodName) object_method_1_code (1 : Nat) (Option.none : Option Jvm.ClassFile.FieldType), Jvm.Cond.code ({ cls := "com/example/commitwise/commitwise/TransactionDefinition", name := "<init>", desc := "(Lcom/example/commitwise/commitwise/Propagation;Lcom/example/commitwise/commitwise/Isolation;IZLjava/lang/String;)V" } : Jvm.MethodName) prog_30_method_1_code (6 : Nat) (Option.none : Option Jvm.ClassFile.FieldType), Jvm.Cond.code ({ cls := "java/lang/Record", name := "<init>", desc := "()V" } : Jvm.MethodName) jdk_30_method_1_code (1 : Nat) (Option.none : Option Jvm.ClassFile.FieldType), Jvm.Cond.code ({ cls := "java/util/Objects", name := "requireNonNull", desc := "(Ljava/lang/Object;Ljava/lang/String;)Ljava/lang/Object;" } : Jvm.MethodName) jdk_31_method_11_code (2 : Nat) (Option.some (Jvm.ClassFile.FieldType.object "java/lang/Object")), Jvm.Cond.code ({ cls := "com/example/commitwise/commitwise/TransactionDefinition", name := "withIsolation", desc := "(Lcom/example/commitwise/commitwise/Isolation;)Lcom/example/commitwise/commitwise/TransactionDefinition;" } : Jvm.MethodName) prog_30_method_3_code (2 : Nat) (Option.some (Jvm.ClassFile.FieldType.object "com/example/commitwise/commitwise/TransactionDefinition")), Jvm.Cond.code ({ cls := "com/example/commitwise/commitwise/TransactionDefinition", name := "name", desc := "()Ljava/lang/String;" } : Jvm.MethodName) prog_30_method_14_code (1 : Nat) (Option.some (Jvm.ClassFile.FieldType.object "java/lang/String")), Jvm.Cond.code ({ cls := "java/lang/String", name := "equals", desc := "(Ljava/lang/Object;)Z" } : Jvm.MethodName) jdk_42_method_66_code (3 : Nat) (Option.some Jvm.ClassFile.FieldType.boolean), Jvm.Cond.code ({ cls := "com/example/commitwise/commitwise/TransactionDefinition", name := "propagation", desc := "()Lcom/example/commitwise/commitwise/Propagation;" } : Jvm.MethodName) prog_30_method_10_code (1 : Nat) (Option.some (Jvm.ClassFile.FieldType.object "com/example/commitwise/commitwise/Propagation")), Jvm.Cond.code ({ cls := "com/example/commitwise/commitwise/TransactionDefinition", name := "isolation", desc := "()Lcom/example/commitwise/commitwise/Isolation;" } : Jvm.MethodName) prog_30_method_11_code (1 : Nat) (Option.some (Jvm.ClassFile.FieldType.object "com/example/commitwise/commitwise/Isolation")), Jvm.Cond.code ({ cls := "com/example/commitwise/commitwise/TransactionDefinition", name := "timeout", desc := "()I" } : Jvm.MethodName) prog_30_method_12_code (1 : Nat) (Option.some Jvm.ClassFile.FieldType.int), Jvm.Cond.code ({ cls := "com/example/commitwise/commitwise/TransactionDefinition", name := "readOnly", desc := "()Z" } : Jvm.MethodName) prog_30_method_13_code (1 : Nat) (Option.some Jvm.ClassFile.FieldType.boolean), Jvm.Cond.code ({ cls := "java/lang/StringUTF16", name := "compress", desc := "([CII)[B" } : Jvm.MethodName) jdk_52_method_16_code (6 : Nat) (Option.some (Jvm.ClassFile.FieldType.array Jvm.ClassFile.FieldType.byte)), Jvm.Cond.code ({ cls := "java/lang/StringUTF16", name := "compress", desc := "([CI[BII)I" } : Jvm.MethodName) jdk_52_method_21_code (7 : Nat) (Option.some Jvm.ClassFile.FieldType.int), Jvm.Cond.code ({ cls := "java/lang/StringUTF16", name := "coderFromArrayLen", desc := "([BI)B" } : Jvm.MethodName) jdk_52_method_15_code (2 : Nat) (Option.some Jvm.ClassFile.FieldType.byte), Jvm.Cond.code ({ cls := "java/lang/String", name := "valueOf", desc := "(C)Ljava/lang/String;" } : Jvm.MethodName) jdk_42_method_139_code (1 : Nat) (Option.some (Jvm.ClassFile.FieldType.object "java/lang/String")), Jvm.Cond.code ({ cls := "java/lang/StringLatin1", name := "canEncode", desc := "(C)Z" } : Jvm.MethodName) jdk_43_method_3_code (1 : Nat) (Option.some Jvm.ClassFile.FieldType.boolean), Jvm.Cond.code ({ cls := "java/lang/StringLatin1", name := "toBytes", desc := "(C)[B" } : Jvm.MethodName) jdk_43_method_46_code (1 : Nat) (Option.some (Jvm.ClassFile.FieldType.array Jvm.ClassFile.FieldType.byte)), Jvm.Cond.code ({ cls := "java/lang/String", name := "<init>", desc := "([BB)V" } : Jvm.MethodName) jdk_42_method_151_code (3 : Nat) (Option.none : Option Jvm.ClassFile.FieldType)]
set_option maxRecDepth 65536 in
theorem codes_eq : words1.filter isCode = codes1 := rfl
theorem w_codes : ∀ c ∈ words1.filter isCode, c.before args0 about1 = true := by
  rw [codes_eq]
  intro c hc
  simp only [codes1, List.mem_cons, List.not_mem_nil, or_false] at hc
  rcases hc with rfl | rfl | rfl | rfl | rfl | rfl | rfl | rfl | rfl | rfl | rfl | rfl | rfl | rfl | rfl | rfl | rfl | rfl | rfl | rfl | rfl | rfl | rfl | rfl
  · exact w_c0
  · exact w_c1
  · exact w_c2
  · exact w_c3
  · exact w_c4
  · exact w_c5
  · exact w_c6
  · exact w_c7
  · exact w_c8
  · exact w_c9
  · exact w_c10
  · exact w_c11
  · exact w_c12
  · exact w_c13
  · exact w_c14
  · exact w_c15
  · exact w_c16
  · exact w_c17
  · exact w_c18
  · exact w_c19
  · exact w_c20
  · exact w_c21
  · exact w_c22
  · exact w_c23
set_option maxRecDepth 65536 in
theorem w_t1 : (words1.take 24).all (fun c => isCode c || c.before args0 about1) = true := by decide +kernel
set_option maxRecDepth 65536 in
theorem w_t2 : ((words1.drop 24).take 24).all (fun c => isCode c || c.before args0 about1) = true := by decide +kernel
set_option maxRecDepth 65536 in
theorem w_t3 : (((words1.drop 24).drop 24).take 24).all (fun c => isCode c || c.before args0 about1) = true := by decide +kernel
set_option maxRecDepth 65536 in
theorem w_t4 : ((((words1.drop 24).drop 24).drop 24).take 24).all (fun c => isCode c || c.before args0 about1) = true := by decide +kernel
set_option maxRecDepth 65536 in
theorem w_t5 : (((((words1.drop 24).drop 24).drop 24).drop 24).take 24).all (fun c => isCode c || c.before args0 about1) = true := by decide +kernel
set_option maxRecDepth 65536 in
theorem w_t6 : ((((((words1.drop 24).drop 24).drop 24).drop 24).drop 24).take 24).all (fun c => isCode c || c.before args0 about1) = true := by decide +kernel
set_option maxRecDepth 65536 in
theorem w_t7 : ((((((words1.drop 24).drop 24).drop 24).drop 24).drop 24).drop 24).all (fun c => isCode c || c.before args0 about1) = true := by decide +kernel
theorem w_tables : (allAtoms (Jvm.Cond.code x code maxLocals ret :: tables_1)).before args0 about1 = true := by
  rw [allAtoms_all]
  show words1.all (fun c => c.before args0 about1) = true
  refine all_split ?_ w_codes
  rw [← List.take_append_drop 24 words1, List.all_append, w_t1, ← List.take_append_drop 24 (words1.drop 24), List.all_append, w_t2, ← List.take_append_drop 24 ((words1.drop 24).drop 24), List.all_append, w_t3, ← List.take_append_drop 24 (((words1.drop 24).drop 24).drop 24), List.all_append, w_t4, ← List.take_append_drop 24 ((((words1.drop 24).drop 24).drop 24).drop 24), List.all_append, w_t5, ← List.take_append_drop 24 (((((words1.drop 24).drop 24).drop 24).drop 24).drop 24), List.all_append, w_t6, w_t7]
  rfl
set_option maxRecDepth 65536 in
theorem w_rest : rest_1_c.before args0 about1 = true := by decide +kernel
set_option maxRecDepth 65536 in
theorem w_case : (Jvm.Cond.and given_1 narrow_1).before args0 about1 = true := by decide +kernel
set_option maxRecDepth 65536 in
theorem w_consts : constsHeld consts_1 about1 := Jvm.Lit.constsHeldB_iff.mp (by decide +kernel)
theorem w_applies : (headSpec (Jvm.Cond.code x code maxLocals ret :: tables_1) room_1).applies x e0.platform about1 = true :=
  (Spec.applies_iff w_frames).mpr ⟨w_running, w_runnable, w_alone, w_named, w_hears, w_ripe, w_room, w_tables⟩
theorem atStart : AtStart classFile x code maxLocals ret World_1 tables_1 room_1 Calls_1 rest_1 Pre_1 launch0 p0 e0 about1 theMethod args0 below0 :=
  ⟨lists_1, trivial, launch0.admits_env _ _ _, launch0.least_env, fairChoices_fair.cas, fairChoices_fair.clock, w_frames, w_args, w_heap, w_applies, ⟨w_consts, trivial⟩, w_rest, w_case⟩
end start1
theorem witness_1 : WitnessClaimed_1 := ⟨start1.p0, start1.e0, start1.about1, start1.theMethod, start1.args0, start1.below0, start1.atStart⟩
end Jvm.Pilot.@@N@@
