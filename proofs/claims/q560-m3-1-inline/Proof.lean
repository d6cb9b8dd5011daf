import JvmDerived
import JvmDerived.Pilot.@@N@@Statement
import JvmDerived.Pilot.@@N@@Code
set_option linter.unusedVariables false
set_option linter.unusedSimpArgs false
/- laws to paste: Road.backV, Road.lenW, Road.chN, Road.codOf (cut by pick.py; bodies as the Statement names them) -/
namespace Jvm.Pilot.@@N@@
namespace StrChars
open Jvm Sem ClassFile Op Lib Jvm.Stand Jvm.Free.XT Jvm.Free.ALB Jvm.Free.JM Jvm.Free
open Jvm.Lib.Cold (StaticIs)
/-- a char array whose places are chars -/
def Ch (a : Addr) (A : Cell) (U : State) : Prop := Arr .char a A U ∧ Typed .char A
theorem Ch.mv {a : Addr} {A : Cell} {U U' : State} (h : Ch a A U) (hal : U.vm.Alike U'.vm) (hh : U'.heap = U.heap) : Ch a A U' := ⟨h.1.mv hal hh, h.2⟩
theorem Ch.keep {a : Addr} {A : Cell} {U U' : State} (h : Ch a A U) (hal : U.vm.Alike U'.vm) (hk : U'.heap[a]? = some A) : Ch a A U' := ⟨h.1.keep hal hk, h.2⟩
/-- what place i of a char[]'s cell holds -/
def cv (A : Cell) (i : Nat) : Int32 := match A.slots[i]? with | some (.int x) => x | _ => 0
theorem Ch.get {a : Addr} {A : Cell} {U : State} (h : Ch a A U) {i : Nat} (hi : i < A.slots.size) : A.slots[i]? = some (.int (cv A i)) := by
  have e := Array.getElem?_eq_getElem hi
  have f := h.2 i _ e
  unfold cv; rw [e]
  generalize A.slots[i] = v at f
  cases v <;> simp [fits] at f ⊢
/-- the byte that i2b leaves of a char -/
def lo8 (x : Int32) : Int32 := x.toInt8.toInt32
theorem fits_lo8 (y : Int32) : fits .byte (.int (lo8 y)) = true := by
  have h1 := y.toInt8.le_toInt
  have h2 := y.toInt8.toInt_lt
  simp only [lo8, fits, Bool.and_eq_true, decide_eq_true_eq, Int32.le_iff_toInt_le, Int8.toInt_toInt32, show (-128 : Int32).toInt = -128 from by decide, show (127 : Int32).toInt = 127 from by decide]
  omega
/-- A' is A but that each place j of lo .. hi - 1 holds f j -/
def Laid (A A' : Cell) (lo hi : Nat) (f : Nat → Value) : Prop := A'.cls = A.cls ∧ A'.vm = A.vm ∧ A'.slots.size = A.slots.size ∧ ∀ i, A'.slots[i]? = if lo ≤ i ∧ i < hi then some (f i) else A.slots[i]?
theorem Laid.zero (A : Cell) (lo : Nat) (f : Nat → Value) : Laid A A lo (lo + 0) f := ⟨rfl, rfl, rfl, fun i => by rw [if_neg (by omega)]⟩
theorem Laid.step {A Ak : Cell} {lo k : Nat} {f : Nat → Value} {v : Value} (h : Laid A Ak lo k f) (hlo : lo ≤ k) (hk : k < Ak.slots.size) (hv : v = f k) : Laid A (Ak.setSlot k v) lo (k + 1) f := by
  refine ⟨h.1, h.2.1, by simpa [Cell.setSlot] using h.2.2.1, fun i => ?_⟩
  by_cases e : k = i
  · subst e; rw [Cell.slots_setSlot_self v hk, if_pos (by omega), hv]
  · rw [Cell.slots_setSlot_ne v e, h.2.2.2 i]
    by_cases q : lo ≤ i ∧ i < k
    · rw [if_pos q, if_pos (by omega)]
    · rw [if_neg q, if_neg (by omega)]
def U16 : String := "java/lang/StringUTF16"
namespace Cmp5
def yN : MethodName := ⟨"java/lang/StringUTF16", "compress", "([CI[BII)I"⟩
abbrev yB : ByteArray := jdk_52_method_21_code
theorem d0 : decode yB 0 = .ok (.iconst 0, 1) := by decide +kernel
theorem d1 : decode yB 1 = .ok (.istore 5, 2) := by decide +kernel
theorem d3 : decode yB 3 = .ok (.iload 5, 2) := by decide +kernel
theorem d5 : decode yB 5 = .ok (.iload 4, 2) := by decide +kernel
theorem d7 : decode yB 7 = .ok (.if_icmp (.ge) 37, 3) := by decide +kernel
theorem d10 : decode yB 10 = .ok (.aload_n 0, 1) := by decide +kernel
theorem d11 : decode yB 11 = .ok (.iload_n 1, 1) := by decide +kernel
theorem d12 : decode yB 12 = .ok (.caload, 1) := by decide +kernel
theorem d13 : decode yB 13 = .ok (.istore 6, 2) := by decide +kernel
theorem d15 : decode yB 15 = .ok (.iload 6, 2) := by decide +kernel
theorem d17 : decode yB 17 = .ok (.sipush 255, 3) := by decide +kernel
theorem d20 : decode yB 20 = .ok (.if_icmp (.le) 6, 3) := by decide +kernel
theorem d26 : decode yB 26 = .ok (.aload_n 2, 1) := by decide +kernel
theorem d27 : decode yB 27 = .ok (.iload_n 3, 1) := by decide +kernel
theorem d28 : decode yB 28 = .ok (.iload 6, 2) := by decide +kernel
theorem d30 : decode yB 30 = .ok (.i2b, 1) := by decide +kernel
theorem d31 : decode yB 31 = .ok (.bastore, 1) := by decide +kernel
theorem d32 : decode yB 32 = .ok (.iinc 1 1, 3) := by decide +kernel
theorem d35 : decode yB 35 = .ok (.iinc 3 1, 3) := by decide +kernel
theorem d38 : decode yB 38 = .ok (.iinc 5 1, 3) := by decide +kernel
theorem d41 : decode yB 41 = .ok (.goto (-38), 3) := by decide +kernel
theorem d44 : decode yB 44 = .ok (.iload 4, 2) := by decide +kernel
theorem d46 : decode yB 46 = .ok (.ireturn, 1) := by decide +kernel
def site : List Cond := []
def tab : Cond := tabOf yN yB 7 (some .int) site
def P (b : Addr) (A : Cell) (d : Addr) (B : Cell) (o q len : Nat) (args : Array Value) (s : State) : Prop := args = #[.ref b, .int (Int32.ofNat o), .ref d, .int (Int32.ofNat q), .int (Int32.ofNat len)] ∧ Ch b A s ∧ Arr .byte d B s ∧ b ≠ d ∧ o + len ≤ A.slots.size ∧ q + len ≤ B.slots.size ∧ ∀ i, i < len → ¬ 255 < cv A (o + i)
def E (b : Addr) (A : Cell) (d : Addr) (B : Cell) (o q len : Nat) (r : Option Value) (s u : State) : Prop := r = some (.int (Int32.ofNat len)) ∧ ∃ B', Put d B' s u ∧ Laid B B' q (q + len) (fun j => Value.int (lo8 (cv A (o + (j - q)))))
/-- no char of the range above 255: len; the places written hold each char's low byte -/
theorem law (l : Launch) (b : Addr) (A : Cell) (d : Addr) (B : Cell) (o q len : Nat) : Law l yN 5 5 0 0 yB 7 (some .int) site (P b A d B o q len) (E b A d B o q len) (copyLocs d q len) 0 0 := by
  refine Law.of_walk (plainFor_of_name (by decide +kernel)) (by decide +kernel) (by decide +kernel) (by decide) (fun _ _ h => by rw [h.1]; rfl) (fun _ U U' hal hh h => ⟨h.1, h.2.1.mv hal hh, h.2.2.1.mv hal hh, h.2.2.2⟩) (fun r U U' V V' h1 hal h2 h => ⟨h.1, h.2.elim fun B' q => ⟨B', q.1.mv h1 h2, q.2⟩⟩) ?_
  intro p e s m args below meth c s₁ X0 hexec hbytes hml hret hlk hnm hown hh0 W hP
  obtain ⟨rfl, hA, hB, hne, l1, l2, hp⟩ := hP
  have c1 : Steps p.tables e below (s₁.setTop (entryFrame m #[.ref b, .int (Int32.ofNat o), .ref d, .int (Int32.ofNat q), .int (Int32.ofNat len)] 7)) (s₁.setTop (mkF m 0 #[.val (.ref b), .val (.int (Int32.ofNat o)), .val (.ref d), .val (.int (Int32.ofNat q)), .val (.int (Int32.ofNat len)), .unset, .unset] [])) := entry rfl
  have hA0 := hA.1.mv X0.warmed.alike hh0
  have hB0 := hB.mv X0.warmed.alike hh0
  have a31 := hA.1.2.2.2
  have c2 : Steps p.tables e below (s₁.setTop (entryFrame m #[.ref b, .int (Int32.ofNat o), .ref d, .int (Int32.ofNat q), .int (Int32.ofNat len)] 7)) (s₁.setTop (mkF m 3 #[.val (.ref b), .val (.int (Int32.ofNat o)), .val (.ref d), .val (.int (Int32.ofNat q)), .val (.int (Int32.ofNat len)), .val (.int 0), .unset] [])) := c1.trans (by
    refine iconstV X0.here hexec rfl 0 (hb hbytes d0) (by decide) ?_
    refine XS.istore X0.here hexec rfl (hb hbytes d1) rfl rfl ?_
    exact Steps.refl _)
  have loop : ∀ (r i : Nat), i + r = len → ∀ (z : Slot), (z = .unset ∨ ∃ w, z = .val w ∧ w.category = 1) → ∀ (Tl : State) (Bk : Cell), Stand p l e { frames := 0, locals := 0, cells := 0, slots := 0 } s m #[.ref b, .int (Int32.ofNat o), .ref d, .int (Int32.ofNat q), .int (Int32.ofNat len)] below meth c Tl ([] ++ copyLocs d q i) 0 0 → Put d Bk s₁ Tl → Laid B Bk q (q + i) (fun j => Value.int (lo8 (cv A (o + (j - q))))) →
      Steps p.tables e below (s₁.setTop (entryFrame m #[.ref b, .int (Int32.ofNat o), .ref d, .int (Int32.ofNat q), .int (Int32.ofNat len)] 7)) (Tl.setTop (mkF m 3 #[.val (.ref b), .val (.int (Int32.ofNat (o + i))), .val (.ref d), .val (.int (Int32.ofNat (q + i))), .val (.int (Int32.ofNat len)), .val (.int (Int32.ofNat i)), z] [])) → ∃ (T' : State) (B' : Cell) (z' : Slot), Stand p l e { frames := 0, locals := 0, cells := 0, slots := 0 } s m #[.ref b, .int (Int32.ofNat o), .ref d, .int (Int32.ofNat q), .int (Int32.ofNat len)] below meth c T' ([] ++ copyLocs d q len) 0 0 ∧ Put d B' s₁ T' ∧ Laid B B' q (q + len) (fun j => Value.int (lo8 (cv A (o + (j - q))))) ∧
      Steps p.tables e below (s₁.setTop (entryFrame m #[.ref b, .int (Int32.ofNat o), .ref d, .int (Int32.ofNat q), .int (Int32.ofNat len)] 7)) (T'.setTop (mkF m 3 #[.val (.ref b), .val (.int (Int32.ofNat (o + len))), .val (.ref d), .val (.int (Int32.ofNat (q + len))), .val (.int (Int32.ofNat len)), .val (.int (Int32.ofNat len)), z'] [])) := by
    intro r
    induction r with
    | zero =>
      intro i hi z hz Tl Bk Xl pl fl cl
      have hil : i = len := by omega
      rw [hil] at Xl fl cl
      exact ⟨Tl, Bk, z, Xl, pl, fl, cl⟩
    | succ r ih =>
      intro i hi z hz Tl Bk Xl pl fl cl
      have all := X0.warmed.alike.symm.trans Xl.warmed.alike
      have hAl := hA0.keep all (pl.other hne hA0.1)
      have hBk := hB0.like all pl.1 fl.1 fl.2.1 fl.2.2.1
      have hlt : q + i < Bk.slots.size := by rw [fl.2.2.1]; omega
      have c3 : Steps p.tables e below (s₁.setTop (entryFrame m #[.ref b, .int (Int32.ofNat o), .ref d, .int (Int32.ofNat q), .int (Int32.ofNat len)] 7)) (Tl.setTop (mkF m 12 #[.val (.ref b), .val (.int (Int32.ofNat (o + i))), .val (.ref d), .val (.int (Int32.ofNat (q + i))), .val (.int (Int32.ofNat len)), .val (.int (Int32.ofNat i)), z] [.int (Int32.ofNat (o + i)), .ref b])) := cl.trans (by
        refine XS.iload Xl.here hexec rfl (hb hbytes d3) rfl ?_
        refine XS.iload Xl.here hexec rfl (hb hbytes d5) rfl ?_
        refine XS.icmpNo Xl.here hexec rfl (hb hbytes d7) rfl (ii_ge_f (lt32 (by omega) (by omega))) ?_
        refine XS.aloadN Xl.here hexec rfl (hb hbytes d10) rfl rfl ?_
        refine XS.iloadN Xl.here hexec rfl (hb hbytes d11) rfl ?_
        exact Steps.refl _)
      have c4 : Steps p.tables e below (s₁.setTop (entryFrame m #[.ref b, .int (Int32.ofNat o), .ref d, .int (Int32.ofNat q), .int (Int32.ofNat len)] 7)) (Tl.setTop (mkF m 13 #[.val (.ref b), .val (.int (Int32.ofNat (o + i))), .val (.ref d), .val (.int (Int32.ofNat (q + i))), .val (.int (Int32.ofNat len)), .val (.int (Int32.ofNat i)), z] [.int (cv A (o + i))])) := c3.trans (by
        refine Xl.aget hexec hAl rfl (hA.get (i := o + i) (by omega)) rfl rfl (hb hbytes d12) ?_
        exact Steps.refl _)
      have c5 : Steps p.tables e below (s₁.setTop (entryFrame m #[.ref b, .int (Int32.ofNat o), .ref d, .int (Int32.ofNat q), .int (Int32.ofNat len)] 7)) (Tl.setTop (mkF m 15 #[.val (.ref b), .val (.int (Int32.ofNat (o + i))), .val (.ref d), .val (.int (Int32.ofNat (q + i))), .val (.int (Int32.ofNat len)), .val (.int (Int32.ofNat i)), .val (.int (cv A (o + i)))] [])) := c4.trans (by
        refine XS.istoreS Xl.here hexec rfl (hb hbytes d13) rfl rfl hz ?_
        exact Steps.refl _)
      have c6 : Steps p.tables e below (s₁.setTop (entryFrame m #[.ref b, .int (Int32.ofNat o), .ref d, .int (Int32.ofNat q), .int (Int32.ofNat len)] 7)) (Tl.setTop (mkF m 31 #[.val (.ref b), .val (.int (Int32.ofNat (o + i))), .val (.ref d), .val (.int (Int32.ofNat (q + i))), .val (.int (Int32.ofNat len)), .val (.int (Int32.ofNat i)), .val (.int (cv A (o + i)))] [.int (lo8 (cv A (o + i))), .int (Int32.ofNat (q + i)), .ref d])) := c5.trans (by
        refine XS.iload Xl.here hexec rfl (hb hbytes d15) rfl ?_
        refine sipushV Xl.here hexec rfl 255 (hb hbytes d17) (by decide) ?_
        refine XS.icmpYes Xl.here hexec rfl (pc0 := 20) rfl (hb hbytes d20) rfl (ii_le_t (hp i (by omega))) (by decide) rfl ?_
        refine XS.aloadN Xl.here hexec rfl (hb hbytes d26) rfl rfl ?_
        refine XS.iloadN Xl.here hexec rfl (hb hbytes d27) rfl ?_
        refine XS.iload Xl.here hexec rfl (hb hbytes d28) rfl ?_
        refine i2b Xl.here hexec rfl (hb hbytes d30) rfl ?_
        exact Steps.refl _)
      obtain ⟨T7, X7, p7, st7⟩ := Xl.aput hexec hBk rfl hlt rfl (fits_lo8 (cv A (o + i))) (g := (mkF m 31 #[.val (.ref b), .val (.int (Int32.ofNat (o + i))), .val (.ref d), .val (.int (Int32.ofNat (q + i))), .val (.int (Int32.ofNat len)), .val (.int (Int32.ofNat i)), .val (.int (cv A (o + i)))] [.int (lo8 (cv A (o + i))), .int (Int32.ofNat (q + i)), .ref d])) rfl (rest := []) rfl (hb hbytes d31)
      have c8 : Steps p.tables e below (s₁.setTop (entryFrame m #[.ref b, .int (Int32.ofNat o), .ref d, .int (Int32.ofNat q), .int (Int32.ofNat len)] 7)) (T7.setTop (mkF m 32 #[.val (.ref b), .val (.int (Int32.ofNat (o + i))), .val (.ref d), .val (.int (Int32.ofNat (q + i))), .val (.int (Int32.ofNat len)), .val (.int (Int32.ofNat i)), .val (.int (cv A (o + i)))] [])) := c6.trans (st7 _ (Steps.refl _))
      have c9 : Steps p.tables e below (s₁.setTop (entryFrame m #[.ref b, .int (Int32.ofNat o), .ref d, .int (Int32.ofNat q), .int (Int32.ofNat len)] 7)) (T7.setTop (mkF m 3 #[.val (.ref b), .val (.int (Int32.ofNat (o + i) + 1)), .val (.ref d), .val (.int (Int32.ofNat (q + i) + 1)), .val (.int (Int32.ofNat len)), .val (.int (Int32.ofNat i + 1)), .val (.int (cv A (o + i)))] [])) := c8.trans (by
        refine iincV X7.here hexec rfl 1 (hb hbytes d32) (by decide) rfl rfl ?_
        refine iincV X7.here hexec rfl 1 (hb hbytes d35) (by decide) rfl rfl ?_
        refine iincV X7.here hexec rfl 1 (hb hbytes d38) (by decide) rfl rfl ?_
        refine XS.goto X7.here hexec rfl (pc0 := 41) rfl (hb hbytes d41) (by decide) rfl ?_
        exact Steps.refl _)
      have c10 : Steps p.tables e below (s₁.setTop (entryFrame m #[.ref b, .int (Int32.ofNat o), .ref d, .int (Int32.ofNat q), .int (Int32.ofNat len)] 7)) (T7.setTop (mkF m 3 #[.val (.ref b), .val (.int (Int32.ofNat (o + (i + 1)))), .val (.ref d), .val (.int (Int32.ofNat (q + (i + 1)))), .val (.int (Int32.ofNat len)), .val (.int (Int32.ofNat (i + 1))), .val (.int (cv A (o + i)))] [])) := by
        have := c9
        rw [succ32, succ32, succ32] at this
        exact this
      exact ih (i + 1) (by omega) _ (Or.inr ⟨_, rfl, rfl⟩) T7 _ (by rw [copyLocs_step, ← List.append_assoc]; exact X7) (pl.trans p7) (fl.step (by omega) hlt (by simp)) c10
  obtain ⟨T9, B9, z9, X9, p9, f9, g9⟩ := loop len 0 (by omega) .unset (Or.inl rfl) s₁ B (by simpa [copyLocs] using X0) ⟨hB0.1, fun _ _ => rfl, rfl⟩ (Laid.zero _ _ _) c2
  have c11 : Steps p.tables e below (s₁.setTop (entryFrame m #[.ref b, .int (Int32.ofNat o), .ref d, .int (Int32.ofNat q), .int (Int32.ofNat len)] 7)) (T9.setTop (mkF m 46 #[.val (.ref b), .val (.int (Int32.ofNat (o + len))), .val (.ref d), .val (.int (Int32.ofNat (q + len))), .val (.int (Int32.ofNat len)), .val (.int (Int32.ofNat len)), z9] [.int (Int32.ofNat len)])) := g9.trans (by
    refine XS.iload X9.here hexec rfl (hb hbytes d3) rfl ?_
    refine XS.iload X9.here hexec rfl (hb hbytes d5) rfl ?_
    refine XS.icmpYes X9.here hexec rfl (pc0 := 7) rfl (hb hbytes d7) rfl (ii_ge_t (nlt32 (by omega) (Nat.le_refl _))) (by decide) rfl ?_
    refine XS.iload X9.here hexec rfl (hb hbytes d44) rfl ?_
    exact Steps.refl _)
  exact ⟨T9, some (.int (Int32.ofNat len)), _, _, _, X9, by simp, rfl, rfl, (fun h => by cases h), ⟨rfl, B9, p9.from hh0, f9⟩, fun fs hl => c11.trans (X9.ireturnOut hexec hret rfl (Or.inl rfl) (hb hbytes d46) hl)⟩
end Cmp5
namespace Cmp3
def yN : MethodName := ⟨"java/lang/StringUTF16", "compress", "([CII)[B"⟩
abbrev yB : ByteArray := jdk_52_method_16_code
theorem d0 : decode yB 0 = .ok (.iload_n 2, 1) := by decide +kernel
theorem d1 : decode yB 1 = .ok (.newarray .byte, 2) := by decide +kernel
theorem d3 : decode yB 3 = .ok (.astore_n 3, 1) := by decide +kernel
theorem d4 : decode yB 4 = .ok (.aload_n 0, 1) := by decide +kernel
theorem d5 : decode yB 5 = .ok (.iload_n 1, 1) := by decide +kernel
theorem d6 : decode yB 6 = .ok (.aload_n 3, 1) := by decide +kernel
theorem d7 : decode yB 7 = .ok (.iconst 0, 1) := by decide +kernel
theorem d8 : decode yB 8 = .ok (.iload_n 2, 1) := by decide +kernel
theorem d9 : decode yB 9 = .ok (.invokestatic 115, 3) := by decide +kernel
theorem d12 : decode yB 12 = .ok (.istore 4, 2) := by decide +kernel
theorem d14 : decode yB 14 = .ok (.iload 4, 2) := by decide +kernel
theorem d16 : decode yB 16 = .ok (.iload_n 2, 1) := by decide +kernel
theorem d17 : decode yB 17 = .ok (.if_icmp (.eq) 40, 3) := by decide +kernel
theorem d57 : decode yB 57 = .ok (.aload_n 3, 1) := by decide +kernel
theorem d58 : decode yB 58 = .ok (.areturn, 1) := by decide +kernel
def site : List Cond := [.arrayClass .byte, Cmp5.tab] ++ staticW U16 115 Cmp5.yN
def tab : Cond := tabOf yN yB 6 (some (.array .byte)) site
def P (b : Addr) (A : Cell) (o len : Nat) (args : Array Value) (s : State) : Prop := args = #[.ref b, .int (Int32.ofNat o), .int (Int32.ofNat len)] ∧ Ch b A s ∧ o + len ≤ A.slots.size ∧ len ≤ 536870912 ∧ ∀ i, i < len → ¬ 255 < cv A (o + i)
def E (b : Addr) (A : Cell) (o len : Nat) (r : Option Value) (s u : State) : Prop := NewArr .byte "[B" len (fun j => .int (lo8 (cv A (o + j)))) r s u ∧ u.heap.size = s.heap.size + 1
/-- no char of the range above 255: a new byte[] of their low bytes -/
theorem law (l : Launch) (b : Addr) (A : Cell) (o len : Nat) : Law l yN 3 3 1 18 yB 6 (some (.array .byte)) site (P b A o len) (E b A o len) [] 1 len := by
  refine Law.of_walk (plainFor_of_name (by decide +kernel)) (by decide +kernel) (by decide +kernel) (by decide) (fun _ _ h => by rw [h.1]; rfl) (fun _ U U' hal hh h => ⟨h.1, h.2.1.mv hal hh, h.2.2⟩) (fun r U U' V V' h1 hal h2 h => ⟨NewArr.mv r U U' V V' h1 hal h2 h.1, by rw [h1, h2]; exact h.2⟩) ?_
  intro p e s m args below meth c s₁ X0 hexec hbytes hml hret hlk hnm hown hh0 W hP
  obtain ⟨rfl, hA, l1, l2, hp⟩ := hP
  have a31 := hA.1.2.2.2
  have c1 : Steps p.tables e below (s₁.setTop (entryFrame m #[.ref b, .int (Int32.ofNat o), .int (Int32.ofNat len)] 6)) (s₁.setTop (mkF m 0 #[.val (.ref b), .val (.int (Int32.ofNat o)), .val (.int (Int32.ofNat len)), .unset, .unset, .unset] [])) := entry rfl
  have c2 : Steps p.tables e below (s₁.setTop (entryFrame m #[.ref b, .int (Int32.ofNat o), .int (Int32.ofNat len)] 6)) (s₁.setTop (mkF m 1 #[.val (.ref b), .val (.int (Int32.ofNat o)), .val (.int (Int32.ofNat len)), .unset, .unset, .unset] [.int (Int32.ofNat len)])) := c1.trans (by
    refine XS.iloadN X0.here hexec rfl (hb hbytes d0) rfl ?_
    exact Steps.refl _)
  obtain ⟨T3, B3, X3, ba3, bs3, bv3, bh3, bf3, st3⟩ := X0.anew hexec (atype := .byte) (wk W (.arrayClass .byte)) rfl (by show len * 1 ≤ _; omega) (by omega) (g := (mkF m 1 #[.val (.ref b), .val (.int (Int32.ofNat o)), .val (.int (Int32.ofNat len)), .unset, .unset, .unset] [.int (Int32.ofNat len)])) rfl (hb hbytes d1) (rest := []) rfl (Nat.le_refl _) (by show 0 + len ≤ len; omega)
  rw [hh0] at ba3 st3
  have kp3 : XT.Kept s T3 := (XT.Kept.of_eq hh0).push bh3
  have hA3 := hA.keep X3.warmed.alike (kp3 _ _ hA.1.1)
  have hne : b ≠ s.heap.size := hA.1.ne
  have c4 : Steps p.tables e below (s₁.setTop (entryFrame m #[.ref b, .int (Int32.ofNat o), .int (Int32.ofNat len)] 6)) (T3.setTop (mkF m 3 #[.val (.ref b), .val (.int (Int32.ofNat o)), .val (.int (Int32.ofNat len)), .unset, .unset, .unset] [.ref s.heap.size])) := c2.trans (st3 _ (Steps.refl _))
  have c5 : Steps p.tables e below (s₁.setTop (entryFrame m #[.ref b, .int (Int32.ofNat o), .int (Int32.ofNat len)] 6)) (T3.setTop (mkF m 9 #[.val (.ref b), .val (.int (Int32.ofNat o)), .val (.int (Int32.ofNat len)), .val (.ref s.heap.size), .unset, .unset] [.int (Int32.ofNat len), .int 0, .ref s.heap.size, .int (Int32.ofNat o), .ref b])) := c4.trans (by
    refine XS.astoreN X3.here hexec rfl (hb hbytes d3) rfl rfl rfl ?_
    refine XS.aloadN X3.here hexec rfl (hb hbytes d4) rfl rfl ?_
    refine XS.iloadN X3.here hexec rfl (hb hbytes d5) rfl ?_
    refine XS.aloadN X3.here hexec rfl (hb hbytes d6) rfl rfl ?_
    refine iconstV X3.here hexec rfl 0 (hb hbytes d7) (by decide) ?_
    refine XS.iloadN X3.here hexec rfl (hb hbytes d8) rfl ?_
    exact Steps.refl _)
  obtain ⟨v6, T6, X6, E6, g6⟩ := X3.callS hexec (Cmp5.law l b A s.heap.size B3 o 0 len) hown (wks W (staticW U16 115 Cmp5.yN)) (wk W Cmp5.tab) (W := 0) (Nat.le_of_ble_eq_true rfl) (Nat.le_of_ble_eq_true rfl) (Nat.le_refl _) (by show 0 + len + 0 ≤ len; omega) (g := (mkF m 9 #[.val (.ref b), .val (.int (Int32.ofNat o)), .val (.int (Int32.ofNat len)), .val (.ref s.heap.size), .unset, .unset] [.int (Int32.ofNat len), .int (Int32.ofNat 0), .ref s.heap.size, .int (Int32.ofNat o), .ref b])) rfl (by rw [hml]; rfl) c5 (argsL := [.ref b, .int (Int32.ofNat o), .ref s.heap.size, .int (Int32.ofNat 0), .int (Int32.ofNat len)]) (rest := []) rfl rfl (by show 2 * 0 + 0 ≤ _; decide) (hb hbytes d9) (⟨rfl, hA3, ba3, hne, l1, by rw [bs3]; simp, hp⟩)
  obtain ⟨rfl, B6, p6, f6⟩ := E6
  have c7 : Steps p.tables e below (s₁.setTop (entryFrame m #[.ref b, .int (Int32.ofNat o), .int (Int32.ofNat len)] 6)) (T6.setTop (mkF m 12 #[.val (.ref b), .val (.int (Int32.ofNat o)), .val (.int (Int32.ofNat len)), .val (.ref s.heap.size), .unset, .unset] [.int (Int32.ofNat len)])) := g6
  have c8 : Steps p.tables e below (s₁.setTop (entryFrame m #[.ref b, .int (Int32.ofNat o), .int (Int32.ofNat len)] 6)) (T6.setTop (mkF m 58 #[.val (.ref b), .val (.int (Int32.ofNat o)), .val (.int (Int32.ofNat len)), .val (.ref s.heap.size), .val (.int (Int32.ofNat len)), .unset] [.ref s.heap.size])) := c7.trans (by
    refine XS.istore X6.here hexec rfl (hb hbytes d12) rfl rfl ?_
    refine XS.iload X6.here hexec rfl (hb hbytes d14) rfl ?_
    refine XS.iloadN X6.here hexec rfl (hb hbytes d16) rfl ?_
    refine XS.icmpYes X6.here hexec rfl (pc0 := 17) rfl (hb hbytes d17) rfl (ii_eq_t rfl) (by decide) rfl ?_
    refine XS.aloadN X6.here hexec rfl (hb hbytes d57) rfl rfl ?_
    exact Steps.refl _)
  have X8 := X6.wide (L' := []) (cells' := 1) (slots' := len) (fun x hx hlt => by
    simp only [List.nil_append, copyLocs, List.mem_map, List.mem_range] at hx
    obtain ⟨i, -, rfl⟩ := hx
    exact absurd hlt (Nat.lt_irrefl _)) (Nat.le_refl _) (by omega)
  exact ⟨T6, some (.ref s.heap.size), _, _, _, X8, rfl, rfl, rfl, (fun h => by cases h), ⟨⟨rfl, B6, ba3.like (X3.warmed.alike.symm.trans X6.warmed.alike) p6.1 f6.1 f6.2.1 f6.2.2.1, f6.2.1.trans bv3, by rw [X6.warmed.alike.findClass, f6.1]; exact bf3, by rw [f6.2.2.1, bs3]; simp, fun j hj => by rw [f6.2.2.2 j, if_pos (by omega)]; rfl, kp3.put p6 (Nat.le_refl _)⟩, by rw [p6.2.2, bh3, hh0]; simp⟩, fun fs hl => c8.trans (X8.areturnOut hexec rfl hret rfl (hb hbytes d58) hl)⟩
end Cmp3
namespace CodL
def yN : MethodName := ⟨"java/lang/StringUTF16", "coderFromArrayLen", "([BI)B"⟩
abbrev yB : ByteArray := jdk_52_method_15_code
theorem d0 : decode yB 0 = .ok (.iload_n 1, 1) := by decide +kernel
theorem d1 : decode yB 1 = .ok (.aload_n 0, 1) := by decide +kernel
theorem d2 : decode yB 2 = .ok (.arraylength, 1) := by decide +kernel
theorem d3 : decode yB 3 = .ok (.isub, 1) := by decide +kernel
theorem d4 : decode yB 4 = .ok (.bipush 31, 2) := by decide +kernel
theorem d6 : decode yB 6 = .ok (.iushr, 1) := by decide +kernel
theorem d7 : decode yB 7 = .ok (.i2b, 1) := by decide +kernel
theorem d8 : decode yB 8 = .ok (.ireturn, 1) := by decide +kernel
def site : List Cond := []
def tab : Cond := tabOf yN yB 2 (some .byte) site
def P (d : Addr) (B : Cell) (args : Array Value) (s : State) : Prop := args = #[.ref d, .int (Int32.ofNat B.slots.size)] ∧ Arr .byte d B s
def E (r : Option Value) (s u : State) : Prop := XT.PureE (some (.int 0)) r s u
/-- an array as long as the number of chars: LATIN1 -/
theorem law (l : Launch) (d : Addr) (B : Cell) : Law l yN 2 2 0 0 yB 2 (some .byte) site (P d B) E [] 0 0 := by
  refine Law.of_walk (plainFor_of_name (by decide +kernel)) (by decide +kernel) (by decide +kernel) (by decide) (fun _ _ h => by rw [h.1]; rfl) (fun _ U U' hal hh h => ⟨h.1, h.2.mv hal hh⟩) (fun r U U' V V' h1 hal h2 h => XT.PureE.mv r U U' V V' h1 hal h2 h) ?_
  intro p e s m args below meth c s₁ X0 hexec hbytes hml hret hlk hnm hown hh0 W hP
  obtain ⟨rfl, hB⟩ := hP
  have hB0 := hB.mv X0.warmed.alike hh0
  have c1 : Steps p.tables e below (s₁.setTop (entryFrame m #[.ref d, .int (Int32.ofNat B.slots.size)] 2)) (s₁.setTop (mkF m 0 #[.val (.ref d), .val (.int (Int32.ofNat B.slots.size))] [])) := entry rfl
  have c2 : Steps p.tables e below (s₁.setTop (entryFrame m #[.ref d, .int (Int32.ofNat B.slots.size)] 2)) (s₁.setTop (mkF m 2 #[.val (.ref d), .val (.int (Int32.ofNat B.slots.size))] [.ref d, .int (Int32.ofNat B.slots.size)])) := c1.trans (by
    refine XS.iloadN X0.here hexec rfl (hb hbytes d0) rfl ?_
    refine XS.aloadN X0.here hexec rfl (hb hbytes d1) rfl rfl ?_
    exact Steps.refl _)
  have c3 : Steps p.tables e below (s₁.setTop (entryFrame m #[.ref d, .int (Int32.ofNat B.slots.size)] 2)) (s₁.setTop (mkF m 8 #[.val (.ref d), .val (.int (Int32.ofNat B.slots.size))] [.int (lo8 (ushr (Int32.ofNat B.slots.size - Int32.ofNat B.slots.size) 31))])) := c2.trans (by
    refine X0.alen hexec hB0 rfl rfl (hb hbytes d2) ?_
    refine XS.isub X0.here hexec rfl (hb hbytes d3) rfl ?_
    refine bipushV X0.here hexec rfl 31 (hb hbytes d4) (by decide) ?_
    refine iushr X0.here hexec rfl (hb hbytes d6) rfl ?_
    refine i2b X0.here hexec rfl (hb hbytes d7) rfl ?_
    exact Steps.refl _)
  have e0 : lo8 (ushr (Int32.ofNat B.slots.size - Int32.ofNat B.slots.size) 31) = 0 := by rw [Int32.sub_self]; decide
  rw [e0] at c3
  exact ⟨s₁, some (.int 0), _, _, _, X0, rfl, rfl, rfl, (fun h => by cases h), ⟨rfl, hh0⟩, fun fs hl => c3.trans (X0.ireturnOut hexec hret rfl (Or.inr (Or.inr (Or.inl rfl))) (hb hbytes d8) hl)⟩
end CodL
/-- the String at a is Latin-1 over a new byte[] (the heap's one new cell): the low bytes of the len chars of A from o on; every cell but a is kept -/
def Got (a : Addr) (D : Cell) (fV fC : Field) (A : Cell) (o len : Nat) (r : Option Value) (s u : State) : Prop := r = none ∧ ∃ D' V : Cell, Blank "java/lang/String" a D' u ∧ Same D D' [fV.slot, fC.slot] ∧ D'.slots[fV.slot]? = some (.ref s.heap.size) ∧ D'.slots[fC.slot]? = some (.int 0) ∧ Arr .byte s.heap.size V u ∧ V.vm = .none ∧ u.vm.findClass "[B" = some V.cls ∧ V.slots.size = len ∧ (∀ j, j < len → V.slots[j]? = some (.int (lo8 (cv A (o + j))))) ∧ (∀ (y : Addr) (c : Cell), y ≠ a → s.heap[y]? = some c → u.heap[y]? = some c) ∧ u.heap.size = s.heap.size + 1
theorem Got.mv {a : Addr} {D A : Cell} {fV fC : Field} {o len : Nat} : ∀ r (U U' V V' : State), U'.heap = U.heap → V.vm.Alike V'.vm → V'.heap = V.heap → Got a D fV fC A o len r U V → Got a D fV fC A o len r U' V' :=
  fun r U U' V V' h1 hal h2 ⟨e0, D', X, a1, a2, a3, a4, a5, a6, a7, a8, a9, a10, a11⟩ => ⟨e0, D', X, a1.mv hal h2, a2, by rw [h1]; exact a3, a4, by rw [h1]; exact a5.mv hal h2, a6, by rw [hal.findClass]; exact a7, a8, a9, by rw [h1, h2]; exact a10, by rw [h1, h2]; exact a11⟩
namespace New4
def yN : MethodName := ⟨"java/lang/String", "<init>", "([CIILjava/lang/Void;)V"⟩
abbrev yB : ByteArray := jdk_42_method_149_code
theorem d0 : decode yB 0 = .ok (.aload_n 0, 1) := by decide +kernel
theorem d1 : decode yB 1 = .ok (.invokespecial 1, 3) := by decide +kernel
theorem d4 : decode yB 4 = .ok (.iload_n 3, 1) := by decide +kernel
theorem d5 : decode yB 5 = .ok (.ifCond (.ne) 22, 3) := by decide +kernel
theorem d27 : decode yB 27 = .ok (.getstatic 38, 3) := by decide +kernel
theorem d30 : decode yB 30 = .ok (.ifCond (.eq) 28, 3) := by decide +kernel
theorem d33 : decode yB 33 = .ok (.aload_n 1, 1) := by decide +kernel
theorem d34 : decode yB 34 = .ok (.iload_n 2, 1) := by decide +kernel
theorem d35 : decode yB 35 = .ok (.iload_n 3, 1) := by decide +kernel
theorem d36 : decode yB 36 = .ok (.invokestatic 177, 3) := by decide +kernel
theorem d39 : decode yB 39 = .ok (.astore 5, 2) := by decide +kernel
theorem d41 : decode yB 41 = .ok (.aload_n 0, 1) := by decide +kernel
theorem d42 : decode yB 42 = .ok (.aload 5, 2) := by decide +kernel
theorem d44 : decode yB 44 = .ok (.iload_n 3, 1) := by decide +kernel
theorem d45 : decode yB 45 = .ok (.invokestatic 47, 3) := by decide +kernel
theorem d48 : decode yB 48 = .ok (.putfield 15, 3) := by decide +kernel
theorem d51 : decode yB 51 = .ok (.aload_n 0, 1) := by decide +kernel
theorem d52 : decode yB 52 = .ok (.aload 5, 2) := by decide +kernel
theorem d54 : decode yB 54 = .ok (.putfield 9, 3) := by decide +kernel
theorem d57 : decode yB 57 = .ok (.return_, 1) := by decide +kernel
def site : List Cond := [.fieldLink "java/lang/String" 38 "java/lang/String" "COMPACT_STRINGS" "Z", Cmp3.tab, CodL.tab, .laysFinal "java/lang/String" "java/lang/String" "value" "[B", .fieldLink "java/lang/String" 9 "java/lang/String" "value" "[B", .laysFinal "java/lang/String" "java/lang/String" "coder" "B", .fieldLink "java/lang/String" 15 "java/lang/String" "coder" "B"] ++ objW "java/lang/String" 1 ++ staticW "java/lang/String" 177 Cmp3.yN ++ staticW "java/lang/String" 47 CodL.yN
def tab : Cond := tabOf yN yB 6 none site
def P (a : Addr) (D : Cell) (fV fC : Field) (b : Addr) (A : Cell) (z : Int32) (o len : Nat) (args : Array Value) (s : State) : Prop := args = #[.ref a, .ref b, .int (Int32.ofNat o), .int (Int32.ofNat len), .null] ∧ Blank "java/lang/String" a D s ∧ Found "java/lang/String" "value" "[B" fV s ∧ Found "java/lang/String" "coder" "B" fC s ∧ Ch b A s ∧ StaticIs s "java/lang/String" "COMPACT_STRINGS" "Z" (.int z) ∧ ¬ z = 0 ∧ 0 < len ∧ o + len ≤ A.slots.size ∧ len ≤ 536870912 ∧ ∀ i, i < len → ¬ 255 < cv A (o + i)
def E (a : Addr) (D : Cell) (fV fC : Field) (A : Cell) (o len : Nat) (r : Option Value) (s u : State) : Prop := Got a D fV fC A o len r s u
/-- len > 0, no char of the range above 255: a Latin-1 String of their low bytes -/
theorem law (l : Launch) (a : Addr) (D : Cell) (fV fC : Field) (b : Addr) (A : Cell) (z : Int32) (o len : Nat) : Law l yN 5 4 2 35 yB 6 none site (P a D fV fC b A z o len) (E a D fV fC A o len) [⟨a, fC.slot⟩, ⟨a, fV.slot⟩] 1 len := by
  refine Law.of_walk (plainFor_of_name (by decide +kernel)) (by decide +kernel) (by decide +kernel) (by decide) (fun _ _ h => by rw [h.1]; rfl) (fun _ U U' hal hh h => ⟨h.1, h.2.1.mv hal hh, h.2.2.1.al hal, h.2.2.2.1.al hal, h.2.2.2.2.1.mv hal hh, h.2.2.2.2.2.1.there hal hh, h.2.2.2.2.2.2⟩) (fun r U U' V V' h1 hal h2 h => Got.mv r U U' V V' h1 hal h2 h) ?_
  intro p e s m args below meth c s₁ X0 hexec hbytes hml hret hlk hnm hown hh0 W hP
  obtain ⟨rfl, hB, f1, f2, hA, s1, hz, l0, l1, l2, hp⟩ := hP
  have a31 := hA.1.2.2.2
  have c1 : Steps p.tables e below (s₁.setTop (entryFrame m #[.ref a, .ref b, .int (Int32.ofNat o), .int (Int32.ofNat len), .null] 6)) (s₁.setTop (mkF m 0 #[.val (.ref a), .val (.ref b), .val (.int (Int32.ofNat o)), .val (.int (Int32.ofNat len)), .val .null, .unset] [])) := entry rfl
  have c2 : Steps p.tables e below (s₁.setTop (entryFrame m #[.ref a, .ref b, .int (Int32.ofNat o), .int (Int32.ofNat len), .null] 6)) (s₁.setTop (mkF m 1 #[.val (.ref a), .val (.ref b), .val (.int (Int32.ofNat o)), .val (.int (Int32.ofNat len)), .val .null, .unset] [.ref a])) := c1.trans (by
    refine XS.aloadN X0.here hexec rfl (hb hbytes d0) rfl rfl ?_
    exact Steps.refl _)
  obtain ⟨T3, X3, q3, st3⟩ := X0.oinit hexec hown (wks W (objW "java/lang/String" 1)) (g := (mkF m 1 #[.val (.ref a), .val (.ref b), .val (.int (Int32.ofNat o)), .val (.int (Int32.ofNat len)), .val .null, .unset] [.ref a])) rfl (by rw [hml]; rfl) (rest := []) rfl (hb hbytes d1) (W := 0) (by show 2 * 0 + 0 ≤ _; decide) (Nat.le_of_ble_eq_true rfl) (Nat.le_of_ble_eq_true rfl)
  have hh3 := q3.trans hh0
  have c4 : Steps p.tables e below (s₁.setTop (entryFrame m #[.ref a, .ref b, .int (Int32.ofNat o), .int (Int32.ofNat len), .null] 6)) (T3.setTop (mkF m 27 #[.val (.ref a), .val (.ref b), .val (.int (Int32.ofNat o)), .val (.int (Int32.ofNat len)), .val .null, .unset] [])) := (c2.trans (st3 _ (Steps.refl _))).trans (by
    refine XS.iloadN X3.here hexec rfl (hb hbytes d4) rfl ?_
    refine XS.ifYes X3.here hexec rfl (pc0 := 5) rfl (hb hbytes d5) rfl (i0_ne_t (nz32 (by omega) l0)) (by decide) rfl ?_
    exact Steps.refl _)
  obtain ⟨T5, X5, q5, st5⟩ := X3.sget hexec hown (wk W (.fieldLink "java/lang/String" 38 "java/lang/String" "COMPACT_STRINGS" "Z")) s1 (fun _ _ h => by rw [hh3]; exact h) (g := (mkF m 27 #[.val (.ref a), .val (.ref b), .val (.int (Int32.ofNat o)), .val (.int (Int32.ofNat len)), .val .null, .unset] [])) rfl (hb hbytes d27)
  have hh5 := q5.trans hh3
  have c6 : Steps p.tables e below (s₁.setTop (entryFrame m #[.ref a, .ref b, .int (Int32.ofNat o), .int (Int32.ofNat len), .null] 6)) (T5.setTop (mkF m 30 #[.val (.ref a), .val (.ref b), .val (.int (Int32.ofNat o)), .val (.int (Int32.ofNat len)), .val .null, .unset] [.int z])) := c4.trans (st5 _ (Steps.refl _))
  have c7 : Steps p.tables e below (s₁.setTop (entryFrame m #[.ref a, .ref b, .int (Int32.ofNat o), .int (Int32.ofNat len), .null] 6)) (T5.setTop (mkF m 36 #[.val (.ref a), .val (.ref b), .val (.int (Int32.ofNat o)), .val (.int (Int32.ofNat len)), .val .null, .unset] [.int (Int32.ofNat len), .int (Int32.ofNat o), .ref b])) := c6.trans (by
    refine XS.ifNo X5.here hexec rfl (hb hbytes d30) rfl (i0_eq_f hz) ?_
    refine XS.aloadN X5.here hexec rfl (hb hbytes d33) rfl rfl ?_
    refine XS.iloadN X5.here hexec rfl (hb hbytes d34) rfl ?_
    refine XS.iloadN X5.here hexec rfl (hb hbytes d35) rfl ?_
    exact Steps.refl _)
  obtain ⟨v8, T8, X8, E8, g8⟩ := X5.callS hexec (Cmp3.law l b A o len) hown (wks W (staticW "java/lang/String" 177 Cmp3.yN)) (wk W Cmp3.tab) (W := 0) (Nat.le_of_ble_eq_true rfl) (Nat.le_of_ble_eq_true rfl) (Nat.le_refl _) (by show 0 + len ≤ len; omega) (g := (mkF m 36 #[.val (.ref a), .val (.ref b), .val (.int (Int32.ofNat o)), .val (.int (Int32.ofNat len)), .val .null, .unset] [.int (Int32.ofNat len), .int (Int32.ofNat o), .ref b])) rfl (by rw [hml]; rfl) c7 (argsL := [.ref b, .int (Int32.ofNat o), .int (Int32.ofNat len)]) (rest := []) rfl rfl (by show 2 * 0 + 0 ≤ _; decide) (hb hbytes d36) (⟨rfl, hA.mv X5.warmed.alike hh5, l1, l2, hp⟩)
  obtain ⟨e8, z8⟩ := E8
  obtain ⟨rfl, N, n1, n2, n3, n4, n5, n6⟩ := NewArr.mv _ T5 s _ _ hh5.symm (Vm.Alike.refl _) rfl e8
  rw [hh5] at z8
  have hB1 := hB.keep X8.warmed.alike (n6 _ _ hB.1)
  have hne : s.heap.size ≠ a := (Nat.ne_of_lt (Array.getElem?_eq_some_iff.mp hB.1).1).symm
  have c9 : Steps p.tables e below (s₁.setTop (entryFrame m #[.ref a, .ref b, .int (Int32.ofNat o), .int (Int32.ofNat len), .null] 6)) (T8.setTop (mkF m 39 #[.val (.ref a), .val (.ref b), .val (.int (Int32.ofNat o)), .val (.int (Int32.ofNat len)), .val .null, .unset] [.ref s.heap.size])) := g8
  have c10 : Steps p.tables e below (s₁.setTop (entryFrame m #[.ref a, .ref b, .int (Int32.ofNat o), .int (Int32.ofNat len), .null] 6)) (T8.setTop (mkF m 45 #[.val (.ref a), .val (.ref b), .val (.int (Int32.ofNat o)), .val (.int (Int32.ofNat len)), .val .null, .val (.ref s.heap.size)] [.int (Int32.ofNat N.slots.size), .ref s.heap.size, .ref a])) := by
    have hc : Steps p.tables e below (s₁.setTop (entryFrame m #[.ref a, .ref b, .int (Int32.ofNat o), .int (Int32.ofNat len), .null] 6)) (T8.setTop (mkF m 45 #[.val (.ref a), .val (.ref b), .val (.int (Int32.ofNat o)), .val (.int (Int32.ofNat len)), .val .null, .val (.ref s.heap.size)] [.int (Int32.ofNat len), .ref s.heap.size, .ref a])) := c9.trans (by
      refine XS.astore X8.here hexec rfl (hb hbytes d39) rfl rfl rfl ?_
      refine XS.aloadN X8.here hexec rfl (hb hbytes d41) rfl rfl ?_
      refine XS.aload X8.here hexec rfl (hb hbytes d42) rfl rfl ?_
      refine XS.iloadN X8.here hexec rfl (hb hbytes d44) rfl ?_
      exact Steps.refl _)
    rw [n4]; exact hc
  obtain ⟨v11, T11, X11, E11, g11⟩ := X8.callS hexec (CodL.law l s.heap.size N) hown (wks W (staticW "java/lang/String" 47 CodL.yN)) (wk W CodL.tab) (W := 1) (Nat.le_of_ble_eq_true rfl) (Nat.le_of_ble_eq_true rfl) (Nat.le_refl _) (by show 0 + len + 0 ≤ len; omega) (g := (mkF m 45 #[.val (.ref a), .val (.ref b), .val (.int (Int32.ofNat o)), .val (.int (Int32.ofNat len)), .val .null, .val (.ref s.heap.size)] [.int (Int32.ofNat N.slots.size), .ref s.heap.size, .ref a])) rfl (by rw [hml]; rfl) c10 (argsL := [.ref s.heap.size, .int (Int32.ofNat N.slots.size)]) (rest := [.ref a]) rfl rfl (by show 2 * 0 + (1 + 0) ≤ _; decide) (hb hbytes d45) (⟨rfl, n1⟩)
  obtain ⟨rfl, q11⟩ := E11
  have hB11 := hB1.mv (X8.warmed.alike.symm.trans X11.warmed.alike) q11
  have c12 : Steps p.tables e below (s₁.setTop (entryFrame m #[.ref a, .ref b, .int (Int32.ofNat o), .int (Int32.ofNat len), .null] 6)) (T11.setTop (mkF m 48 #[.val (.ref a), .val (.ref b), .val (.int (Int32.ofNat o)), .val (.int (Int32.ofNat len)), .val .null, .val (.ref s.heap.size)] [.int 0, .ref a])) := g11
  obtain ⟨T13, X13, p13, bl13, sl13, st13⟩ := X11.finit hexec hown (wk W (.fieldLink "java/lang/String" 15 "java/lang/String" "coder" "B")) (Or.inr ⟨_, (wk W (.laysFinal "java/lang/String" "java/lang/String" "coder" "B"))⟩) (Or.inl ⟨rfl, hnm⟩) f2 (Or.inl rfl) hB11 (t := .byte) (by decide +kernel) rfl (g := (mkF m 48 #[.val (.ref a), .val (.ref b), .val (.int (Int32.ofNat o)), .val (.int (Int32.ofNat len)), .val .null, .val (.ref s.heap.size)] [.int 0, .ref a])) rfl (rest := []) rfl (hb hbytes d48)
  have c14 : Steps p.tables e below (s₁.setTop (entryFrame m #[.ref a, .ref b, .int (Int32.ofNat o), .int (Int32.ofNat len), .null] 6)) (T13.setTop (mkF m 54 #[.val (.ref a), .val (.ref b), .val (.int (Int32.ofNat o)), .val (.int (Int32.ofNat len)), .val .null, .val (.ref s.heap.size)] [.ref s.heap.size, .ref a])) := (c12.trans (st13 _ (Steps.refl _))).trans (by
    refine XS.aloadN X13.here hexec rfl (hb hbytes d51) rfl rfl ?_
    refine XS.aload X13.here hexec rfl (hb hbytes d52) rfl rfl ?_
    exact Steps.refl _)
  obtain ⟨T15, X15, p15, bl15, sl15, st15⟩ := X13.finit hexec hown (wk W (.fieldLink "java/lang/String" 9 "java/lang/String" "value" "[B")) (Or.inr ⟨_, (wk W (.laysFinal "java/lang/String" "java/lang/String" "value" "[B"))⟩) (Or.inl ⟨rfl, hnm⟩) f1 (Or.inl rfl) bl13 (t := (.array .byte)) (by decide +kernel) rfl (g := (mkF m 54 #[.val (.ref a), .val (.ref b), .val (.int (Int32.ofNat o)), .val (.int (Int32.ofNat len)), .val .null, .val (.ref s.heap.size)] [.ref s.heap.size, .ref a])) rfl (rest := []) rfl (hb hbytes d54)
  have c16 : Steps p.tables e below (s₁.setTop (entryFrame m #[.ref a, .ref b, .int (Int32.ofNat o), .int (Int32.ofNat len), .null] 6)) (T15.setTop (mkF m 57 #[.val (.ref a), .val (.ref b), .val (.int (Int32.ofNat o)), .val (.int (Int32.ofNat len)), .val .null, .val (.ref s.heap.size)] [])) := c14.trans (st15 _ (Steps.refl _))
  have ap := apart (Or.inr ⟨_, (wk W (.laysFinal "java/lang/String" "java/lang/String" "value" "[B"))⟩) (Or.inr ⟨_, (wk W (.laysFinal "java/lang/String" "java/lang/String" "coder" "B"))⟩) f1 f2 (t₁ := .array .byte) (t₂ := .byte) (by decide +kernel) (by decide +kernel) (by decide)
  have al := X8.warmed.alike.symm.trans X15.warmed.alike
  have n7 : T11.heap[s.heap.size]? = some N := by rw [q11]; exact n1.1
  exact ⟨T15, none, _, _, _, X15, by simp, rfl, by omega, (fun _ => rfl), ⟨rfl, _, N, bl15, ((Same.refl D _).set _ (by simp)).set _ (by simp), sl15, (Cell.slots_setSlot_ne _ ap).trans sl13, n1.keep al (p15.other hne (p13.other hne n7)), n2, by rw [al.findClass]; exact n3, n4, n5, fun y c h1 h2 => p15.other h1 (p13.other h1 (by rw [q11]; exact n6 y c h2)), by rw [p15.2.2, p13.2.2, q11]; exact z8⟩, fun fs hl => c16.trans (X15.returnOut hexec hret (hb hbytes d57) hl)⟩
end New4
namespace New1
def yN : MethodName := ⟨"java/lang/String", "<init>", "([C)V"⟩
abbrev yB : ByteArray := jdk_42_method_3_code
theorem d0 : decode yB 0 = .ok (.aload_n 0, 1) := by decide +kernel
theorem d1 : decode yB 1 = .ok (.aload_n 1, 1) := by decide +kernel
theorem d2 : decode yB 2 = .ok (.iconst 0, 1) := by decide +kernel
theorem d3 : decode yB 3 = .ok (.aload_n 1, 1) := by decide +kernel
theorem d4 : decode yB 4 = .ok (.arraylength, 1) := by decide +kernel
theorem d5 : decode yB 5 = .ok (.aconst_null, 1) := by decide +kernel
theorem d6 : decode yB 6 = .ok (.invokespecial 27, 3) := by decide +kernel
theorem d9 : decode yB 9 = .ok (.return_, 1) := by decide +kernel
def site : List Cond := [New4.tab] ++ initW "java/lang/String" 27 New4.yN
def tab : Cond := tabOf yN yB 2 none site
def P (a : Addr) (D : Cell) (fV fC : Field) (b : Addr) (A : Cell) (z : Int32) (args : Array Value) (s : State) : Prop := args = #[.ref a, .ref b] ∧ Blank "java/lang/String" a D s ∧ Found "java/lang/String" "value" "[B" fV s ∧ Found "java/lang/String" "coder" "B" fC s ∧ Ch b A s ∧ StaticIs s "java/lang/String" "COMPACT_STRINGS" "Z" (.int z) ∧ ¬ z = 0 ∧ 0 < A.slots.size ∧ A.slots.size ≤ 536870912 ∧ ∀ i, i < A.slots.size → ¬ 255 < cv A i
def E (a : Addr) (D : Cell) (fV fC : Field) (A : Cell) (r : Option Value) (s u : State) : Prop := Got a D fV fC A 0 A.slots.size r s u
/-- new String(chars), not empty, no char above 255: a Latin-1 String of their low bytes -/
theorem law (l : Launch) (a : Addr) (D : Cell) (fV fC : Field) (b : Addr) (A : Cell) (z : Int32) : Law l yN 2 1 3 52 yB 2 none site (P a D fV fC b A z) (E a D fV fC A) [⟨a, fC.slot⟩, ⟨a, fV.slot⟩] 1 A.slots.size := by
  refine Law.of_walk (plainFor_of_name (by decide +kernel)) (by decide +kernel) (by decide +kernel) (by decide) (fun _ _ h => by rw [h.1]; rfl) (fun _ U U' hal hh h => ⟨h.1, h.2.1.mv hal hh, h.2.2.1.al hal, h.2.2.2.1.al hal, h.2.2.2.2.1.mv hal hh, h.2.2.2.2.2.1.there hal hh, h.2.2.2.2.2.2⟩) (fun r U U' V V' h1 hal h2 h => Got.mv r U U' V V' h1 hal h2 h) ?_
  intro p e s m args below meth c s₁ X0 hexec hbytes hml hret hlk hnm hown hh0 W hP
  obtain ⟨rfl, hB, f1, f2, hA, s1, hz, l0, l2, hp⟩ := hP
  have c1 : Steps p.tables e below (s₁.setTop (entryFrame m #[.ref a, .ref b] 2)) (s₁.setTop (mkF m 0 #[.val (.ref a), .val (.ref b)] [])) := entry rfl
  have c2 : Steps p.tables e below (s₁.setTop (entryFrame m #[.ref a, .ref b] 2)) (s₁.setTop (mkF m 6 #[.val (.ref a), .val (.ref b)] [.null, .int (Int32.ofNat A.slots.size), .int 0, .ref b, .ref a])) := c1.trans (by
    refine XS.aloadN X0.here hexec rfl (hb hbytes d0) rfl rfl ?_
    refine XS.aloadN X0.here hexec rfl (hb hbytes d1) rfl rfl ?_
    refine iconstV X0.here hexec rfl 0 (hb hbytes d2) (by decide) ?_
    refine XS.aloadN X0.here hexec rfl (hb hbytes d3) rfl rfl ?_
    refine X0.alen hexec (hA.1.mv X0.warmed.alike hh0) rfl rfl (hb hbytes d4) ?_
    refine XS.aconstNull X0.here hexec rfl (hb hbytes d5) ?_
    exact Steps.refl _)
  obtain ⟨v3, T3, X3, E3, g3⟩ := X0.callN hexec (New4.law l a D fV fC b A z 0 A.slots.size) rfl hown (wks W (initW "java/lang/String" 27 New4.yN)) (W New4.tab (by simp only [site, List.mem_cons, List.mem_append, true_or, or_true])) (W := 0) (Nat.le_of_ble_eq_true rfl) (Nat.le_of_ble_eq_true rfl) (Nat.le_refl _) (by show 0 + A.slots.size ≤ A.slots.size; omega) (g := (mkF m 6 #[.val (.ref a), .val (.ref b)] [.null, .int (Int32.ofNat A.slots.size), .int (Int32.ofNat 0), .ref b, .ref a])) rfl (by rw [hml]; rfl) c2 (argsL := [.ref b, .int (Int32.ofNat 0), .int (Int32.ofNat A.slots.size), .null]) (rest := []) rfl rfl (by show 2 * 0 + 0 ≤ _; decide) (hb hbytes d6) (⟨rfl, hB.mv X0.warmed.alike hh0, f1.al X0.warmed.alike, f2.al X0.warmed.alike, hA.mv X0.warmed.alike hh0, s1.there X0.warmed.alike hh0, hz, l0, by omega, l2, fun i hi => by rw [Nat.zero_add]; exact hp i hi⟩)
  have e0 := Got.mv _ s₁ s _ _ hh0.symm (Vm.Alike.refl _) rfl E3
  obtain rfl := e0.1
  have c4 : Steps p.tables e below (s₁.setTop (entryFrame m #[.ref a, .ref b] 2)) (T3.setTop (mkF m 9 #[.val (.ref a), .val (.ref b)] [])) := g3
  exact ⟨T3, none, _, _, _, X3, by simp, rfl, by omega, (fun _ => rfl), e0, fun fs hl => c4.trans (X3.returnOut hexec hret (hb hbytes d9) hl)⟩
theorem pays {l : Launch} {R : Room} {p : Program} {e : Env} {below : List Frame} {s : State} {sargs : Array Value} {len W : Nat} (a : Addr) (D : Cell) (fV fC : Field) (b : Addr) (A : Cell) (z : Int32) (htab : tab.before sargs s = true) (hfr : 4 ≤ R.frames) (hlo : W + 65 ≤ R.locals) :
    Back l R p e below s sargs yN len W (fun A₁ a₁ => A₁.cells + 1 ≤ R.cells ∧ A₁.slots + A.slots.size ≤ R.slots ∧ P a D fV fC b A z a₁ A₁.U) (fun A₁ _ v₁ B₁ => E a D fV fC A v₁ A₁.U B₁.U ∧ B₁.locs = A₁.locs ++ [⟨a, fC.slot⟩, ⟨a, fV.slot⟩] ∧ B₁.cells = A₁.cells + 1 ∧ B₁.slots = A₁.slots + A.slots.size) :=
  (law l a D fV fC b A z).pays htab hfr (by omega)
end New1
/-- the byte, read back as charAt reads it, is the char -/
theorem lo8_mask {x : Int32} (h0 : ¬ x < 0) (h1 : ¬ 255 < x) : lo8 x &&& 255 = x := by
  have t : ∀ k : Fin 256, lo8 (Int32.ofNat k.val) &&& 255 = Int32.ofNat k.val := by decide +kernel
  rw [Int32.lt_iff_toInt_lt] at h0 h1
  have e0 : (0 : Int32).toInt = 0 := rfl
  have e1 : (255 : Int32).toInt = 255 := rfl
  obtain ⟨k, hk⟩ : ∃ k : Nat, x.toInt = k := ⟨x.toInt.toNat, by omega⟩
  have hx : x = Int32.ofNat k := Int32.toInt_inj.mp (by rw [hk, Int32.toInt_ofNat_small (by omega)])
  rw [hx]
  exact t ⟨k, by omega⟩
end StrChars
namespace StrChars.Road
open Jvm Sem ClassFile Op Lib Jvm.Stand Jvm.Free Jvm.Free.XT
open Jvm.Lib.Cold (StaticIs)
abbrev ST : String := "java/lang/String"
/-- every table word that New1's law asks, flat -/
abbrev words : List Jvm.Cond := [.code New1.yN New1.yB 2 none, .initialized ST, .methodLink ST 27 New4.yN, .instanceMethod New4.yN,
  .code New4.yN New4.yB 6 none, .fieldLink ST 38 ST "COMPACT_STRINGS" "Z", .laysFinal ST ST "value" "[B", .fieldLink ST 9 ST "value" "[B", .laysFinal ST ST "coder" "B", .fieldLink ST 15 ST "coder" "B",
  .methodLink ST 1 Lib.objectInit, .instanceMethod Lib.objectInit, .code Lib.objectInit ⟨#[0xb1]⟩ 1 none, .methodLink ST 177 Cmp3.yN, .static Cmp3.yN, .methodLink ST 47 CodL.yN, .static CodL.yN,
  .code Cmp3.yN Cmp3.yB 6 (some (.array .byte)), .initialized U16, .arrayClass .byte, .methodLink U16 115 Cmp5.yN, .static Cmp5.yN, .code Cmp5.yN Cmp5.yB 7 (some .int), .code CodL.yN CodL.yB 2 (some .byte)]
theorem tab_of {a : Array Value} {s : State} (h : ∀ w ∈ words, w.before a s = true) : New1.tab.before a s = true := by
  have h5 : Cmp5.tab.before a s = true := unparts (wk h (.code Cmp5.yN Cmp5.yB 7 (some .int))) (wks h (.initialized Cmp5.yN.cls :: Cmp5.site))
  have hc : CodL.tab.before a s = true := unparts (wk h (.code CodL.yN CodL.yB 2 (some .byte))) (wks h (.initialized CodL.yN.cls :: CodL.site))
  have q5 : ∀ w ∈ Cmp5.tab :: words, w.before a s = true := fun w hw => (List.mem_cons.mp hw).elim (fun e => e ▸ h5) (h w)
  have h3 : Cmp3.tab.before a s = true := unparts (wk q5 (.code Cmp3.yN Cmp3.yB 6 (some (.array .byte)))) (wks q5 (.initialized Cmp3.yN.cls :: Cmp3.site))
  have q3 : ∀ w ∈ Cmp3.tab :: CodL.tab :: words, w.before a s = true := fun w hw => (List.mem_cons.mp hw).elim (fun e => e ▸ h3) fun hw => (List.mem_cons.mp hw).elim (fun e => e ▸ hc) (h w)
  have h4 : New4.tab.before a s = true := unparts (wk q3 (.code New4.yN New4.yB 6 none)) (wks q3 (.initialized New4.yN.cls :: New4.site))
  have q4 : ∀ w ∈ New4.tab :: words, w.before a s = true := fun w hw => (List.mem_cons.mp hw).elim (fun e => e ▸ h4) (h w)
  exact unparts (wk q4 (.code New1.yN New1.yB 2 none)) (wks q4 (.initialized New1.yN.cls :: New1.site))
/-- the words ride from the start Z to the walk's own state -/
theorem moved {Z s : State} {a0 args : Array Value} (hZ : Z.Warmed39 s.vm) (hw : ∀ d ∈ words, d.before a0 Z = true) : ∀ d ∈ words, d.before args s = true := fun d hd => by
  have q := hw d hd
  have t : ∀ d ∈ words, d = .arrayClass .byte ∨ (d.onTables && d.keepsFace) = true := by decide +kernel
  rcases t d hd with rfl | t
  · exact RoadKit.mvA hZ q
  · exact RoadKit.mv hZ q t
/-- WHAT COMES BACK, over the tables of the start Z: h the heap at the call, h' behind it -/
def Q (Z : State) (x : Addr) (A : Cell) (h : Heap) (v : Option Value) (h' : Heap) (L : List Loc) : Prop := v = none ∧ (∀ y ∈ L, y.base = x) ∧ RoadKit.Keep h h' [x] ∧ h'.size = h.size + 1 ∧ RoadKit.Exa Z h' x ST ∧ RoadKit.Fld Z h' x ST "value" "[B" (.ref h.size) ∧ RoadKit.Fld Z h' x ST "coder" "B" (.int 0) ∧
  (∃ V : Cell, RoadKit.Arr Z h' h.size V .byte ∧ V.vm = .none ∧ Z.vm.findClass "[B" = some V.cls ∧ V.slots.size = A.slots.size ∧ ∀ j, j < A.slots.size → V.slots[j]? = some (.int (lo8 (cv A j)))) ∧
  ∀ (O n d : String) (w : Value), RoadKit.Fld Z h x O n d w → RoadKit.slotOf Z O n d ≠ RoadKit.slotOf Z ST "value" "[B" → RoadKit.slotOf Z O n d ≠ RoadKit.slotOf Z ST "coder" "B" → RoadKit.Fld Z h' x O n d w
/-- **new String(chars) AT A CALL, IN THE ROAD'S FORM**: for specialBack behind newO: x the fresh String, b the char[] with the cell A -/
theorem back {p : Program} {l : Launch} {e : Env} {R : Room} {s : State} {args : Array Value} {below : List Frame} {len W : Nat} {Z : State} {a0 : Array Value} {h : Heap} (hZ : Z.Warmed39 s.vm) (hw : ∀ d ∈ words, d.before a0 Z = true) {kI : Nat} (wi : (Jvm.Cond.instantiable ST kI).before a0 Z = true)
    {x b : Addr} {A : Cell} {z : Int32} {v0 c0 : Value} (E : RoadKit.Exa Z h x ST) (V : RoadKit.Fld Z h x ST "value" "[B" v0) (C : RoadKit.Fld Z h x ST "coder" "B" c0) (K : RoadKit.Arr Z h b A .char) (hty : Typed .char A) (S : RoadKit.Sta Z h ST "COMPACT_STRINGS" "Z" (.int z)) (hz : ¬ z = 0)
    (l0 : 0 < A.slots.size) (l2 : A.slots.size ≤ 536870912) (hp : ∀ i, i < A.slots.size → ¬ 255 < cv A i) (hfr : 4 ≤ R.frames) (hlo : W + 65 ≤ R.locals) :
    Back l R p e below s args New1.yN len W (fun P a => a = #[.ref x, .ref b] ∧ P.U.heap = h ∧ P.cells + 1 ≤ R.cells ∧ P.slots + A.slots.size ≤ R.slots)
      (fun P _ v B => ∃ L, Q Z x A h v B.U.heap L ∧ B.locs = P.locs ++ L ∧ B.cells = P.cells + 1 ∧ B.slots = P.slots + A.slots.size) := by
  intro m meth c P g ig mk a X hg hsize hdg hW hn hp'
  obtain ⟨rfl, rfl, r1, r2⟩ := hp'
  have al : Z.vm.Alike P.U.vm := hZ.alike.trans X.warmed.alike
  obtain ⟨D, cfV, kV, iV, fV, hD, gV, stV, knV, obV, asV, slV⟩ := id V
  obtain ⟨D', cfC, kC, iC, fC, hD', gC, stC, -, -, asC, slC⟩ := id C
  cases hD.symm.trans hD'
  obtain ⟨D2, kD, e1, e2, e3, e4, e5⟩ := id E
  cases hD.symm.trans e1
  obtain ⟨c2, k2, i1, i2, i3, -⟩ := Cond.instantiable_spec wi
  cases e2.symm.trans i1
  cases e3.symm.trans i2
  obtain ⟨kU, u1, u2⟩ := al.2.2 _ _ e3
  have hB : Blank ST x D P.U := ⟨hD, ⟨knV, fun q hq => by rw [hq] at obV; cases obV⟩, by rw [al.findClass]; exact e2, kU, u1, by rw [u2]; exact i3, by rw [u2]; exact e5 i3⟩
  have F1 : Found ST "value" "[B" fV P.U := ⟨SBG.found_only al ⟨cfV, kV, iV, gV⟩, stV⟩
  have F2 : Found ST "coder" "B" fC P.U := ⟨SBG.found_only al ⟨cfC, kC, iC, gC⟩, stC⟩
  have hA : Ch b A P.U := ⟨⟨K.1, State.isArrayOf_alike al K.2.1, K.2.2, by omega⟩, hty⟩
  have hS : StaticIs P.U ST "COMPACT_STRINGS" "Z" (.int z) := by
    obtain ⟨cfS, iS, kS, fS, st, cS, t1, t2, t3, t4, t5, t6, t7⟩ := S
    exact StaticIs.there (s := { Z with heap := P.U.heap }) ⟨cfS, iS, kS, fS, st, cS, t1, t2, t3, t4, t5, (fun q => by rw [q] at t6; cases t6), t7⟩ al rfl
  obtain ⟨v, B, X', ⟨⟨hv, E', V', q1, q2, q3, q4, q5, q6, q7, q8, q9, q10, q11⟩, hl, hc, hs⟩, st⟩ := New1.pays x D fV fC b A z (tab_of (moved hZ hw)) hfr hlo m meth c P g ig mk _ X hg hsize hdg hW hn ⟨r1, r2, rfl, hB, F1, F2, hA, hS, hz, l0, l2, hp⟩
  have al' : Z.vm.Alike B.U.vm := hZ.alike.trans X'.warmed.alike
  have hsz : E'.slots.size = D.slots.size := by
    obtain ⟨-, -, -, kB, w1, w2, w3⟩ := q1
    obtain ⟨kB', y1, y2⟩ := al'.2.2 _ _ e3
    rw [q2.2.1] at w1
    cases w1.symm.trans y1
    rw [w3, e5 i3, y2]
  refine ⟨v, B, X', ⟨_, ⟨hv, ?_, ⟨by omega, fun y cy hy hn' => q10 y cy (by simpa using hn') hy, fun y cy hy => ?_⟩, q11, ⟨E', _, q1.1, by rw [q2.2.1]; exact e2, by rw [q2.2.1]; exact e3, by rw [q2.1]; exact obV, fun _ => by rw [hsz]; exact e5 i3⟩,
    ⟨E', cfV, kV, iV, fV, q1.1, gV, stV, by rw [q2.1]; exact knV, by rw [q2.1]; exact obV, by rw [q2.2.1]; exact asV, q3⟩, ⟨E', cfC, kC, iC, fC, q1.1, gC, stC, by rw [q2.1]; exact knV, by rw [q2.1]; exact obV, by rw [q2.2.1]; exact asC, q4⟩,
    ⟨V', ⟨q5.1, State.isArrayOf_alike al'.symm q5.2.1, q5.2.2.1⟩, q6, by rw [← al'.findClass]; exact q7, q8, fun j hj => by have := q9 j hj; rwa [Nat.zero_add] at this⟩, fun O n d w F n1 n2 => ?_⟩, hl, hc, hs⟩, st⟩
  · intro y hy
    simp only [List.mem_cons, List.not_mem_nil, or_false] at hy
    rcases hy with rfl | rfl <;> rfl
  · by_cases q : y = x
    · subst q
      cases hD.symm.trans hy
      exact ⟨E', q1.1, q2.2.1, q2.1, hsz⟩
    · exact ⟨cy, q10 y cy q hy, rfl, rfl, rfl⟩
  · obtain ⟨D3, cf, k, i, f, g1, g2, g3, g4, g5, g6, g7⟩ := F
    cases hD.symm.trans g1
    simp only [RoadKit.slotOf, g2, gV, gC, Option.map_some, Option.getD_some] at n1 n2
    exact ⟨E', cf, k, i, f, q1.1, g2, g3, by rw [q2.1]; exact g4, by rw [q2.1]; exact g5, by rw [q2.2.1]; exact g6, by rw [q2.2.2 f.slot (by simp [n1, n2])]; exact g7⟩
end StrChars.Road
namespace StrChars.Road
open Jvm Sem ClassFile Op Lib Jvm.Stand Jvm.Free Jvm.Free.XT
/-- WHAT COMES BACK, the byte[] as a list of values -/
def QA (Z : State) (x : Addr) (zn : Int32) (cs : List Int32) (h : Heap) (v : Option Value) (h' : Heap) (L : List Loc) : Prop := v = none ∧ (∀ y ∈ L, y.base = x) ∧ RoadKit.Keep h h' [x] ∧ h'.size = h.size + 1 ∧ RoadKit.Exa Z h' x ST ∧ RoadKit.Fld Z h' x ST "value" "[B" (.ref h.size) ∧ RoadKit.Fld Z h' x ST "coder" "B" (.int 0) ∧
  (∃ kb, Z.vm.findClass "[B" = some kb ∧ RoadKit.Arv Z h' h.size kb .byte zn (cs.map fun c => .int (lo8 c)) (.int 0)) ∧
  ∀ (O n d : String) (w : Value), RoadKit.Fld Z h x O n d w → RoadKit.slotOf Z O n d ≠ RoadKit.slotOf Z ST "value" "[B" → RoadKit.slotOf Z O n d ≠ RoadKit.slotOf Z ST "coder" "B" → RoadKit.Fld Z h' x O n d w
/-- **new String(chars) AT A CALL, THE ARRAYS AS LISTS**: the char[] at b holds cs, not empty, no char above 255 -/
theorem backArv {p : Program} {l : Launch} {e : Env} {R : Room} {s : State} {args : Array Value} {below : List Frame} {len W : Nat} {Z : State} {a0 : Array Value} {h : Heap} (hZ : Z.Warmed39 s.vm) (hw : ∀ d ∈ words, d.before a0 Z = true) {kI : Nat} (wi : (Jvm.Cond.instantiable ST kI).before a0 Z = true)
    {x b : Addr} {k : ClassId} {zn z : Int32} {cs : List Int32} {dv v0 c0 : Value} (E : RoadKit.Exa Z h x ST) (V : RoadKit.Fld Z h x ST "value" "[B" v0) (C : RoadKit.Fld Z h x ST "coder" "B" c0) (K : RoadKit.Arv Z h b k .char zn (cs.map Value.int) dv) (S : RoadKit.Sta Z h ST "COMPACT_STRINGS" "Z" (.int z)) (hz : ¬ z = 0)
    (hlen : zn.toNatClampNeg = cs.length) (h0 : 0 < cs.length) (hbig : cs.length ≤ 536870912) (hall : ∀ c ∈ cs, ¬ 255 < c) (hfr : 4 ≤ R.frames) (hlo : W + 65 ≤ R.locals) :
    Back l R p e below s args New1.yN len W (fun P a => a = #[.ref x, .ref b] ∧ P.U.heap = h ∧ P.cells + 1 ≤ R.cells ∧ P.slots + cs.length ≤ R.slots)
      (fun P _ v B => ∃ L, QA Z x zn cs h v B.U.heap L ∧ B.locs = P.locs ++ L ∧ B.cells = P.cells + 1 ∧ B.slots = P.slots + cs.length) := by
  obtain ⟨A, K1, K2, K3, K4, K5, K6⟩ := K
  have e : A.slots.size = cs.length := K3.trans hlen
  have hat : ∀ (i : Nat) (hi : i < cs.length), A.slots[i]? = some (.int cs[i]) := fun i hi => by rw [K5 i (by omega)]; simp [List.getD_eq_getElem?_getD, hi]
  have hcv : ∀ (i : Nat) (hi : i < cs.length), cv A i = cs[i] := fun i hi => by unfold cv; rw [hat i hi]
  have hty : Typed .char A := fun i v hv => by
    have hi : i < A.slots.size := (Array.getElem?_eq_some_iff.mp hv).1
    have q := K5 i hi
    rw [hv] at q
    rw [Option.some.inj q]
    exact K6 i hi
  refine Back.mono (back hZ hw wi E V C K1 hty S hz (by omega) (by omega) (fun i hi => by rw [hcv i (by omega)]; exact hall _ (List.getElem_mem _)) hfr hlo) (fun P a hp => ⟨hp.1, hp.2.1, hp.2.2.1, by rw [e]; exact hp.2.2.2⟩) (fun P a v B hp hq => ?_)
  obtain ⟨L, ⟨q1, q2, q3, q4, q5, q6, q7, ⟨V', v1, v2, v3, v4, v5⟩, q9⟩, hl, hc, hs⟩ := hq
  refine ⟨L, ⟨q1, q2, q3, q4, q5, q6, q7, ⟨V'.cls, v3, V', v1, rfl, by rw [v4, e, hlen], K4, fun i hi => ?_, fun i hi => ?_⟩, q9⟩, hl, hc, by rw [hs, e]⟩
  · have hi' : i < cs.length := by omega
    rw [v5 i (by omega), hcv i hi']; simp [List.getD_eq_getElem?_getD, hi']
  · have hi' : i < cs.length := by omega
    simp only [List.getD_eq_getElem?_getD, List.getElem?_map, List.getElem?_eq_getElem hi', Option.map_some, Option.getD_some]
    exact fits_lo8 _
end StrChars.Road
namespace StrChars.Road
open Jvm Sem ClassFile Op Lib Jvm.Stand Jvm.Free Jvm.Free.XT
/-- WHAT COMES BACK, in the writer's own shape -/
def QV (Z : State) (x : Addr) (N : Int32) (bs : List Int32) (h : Heap) (n0 : Nat) (v : Option Value) (h' : Heap) (L : List Loc) : Prop := v = none ∧ RoadKit.Fr n0 L ∧ RoadKit.Keep h h' [x] ∧ RoadKit.Exa Z h' x ST ∧ RoadKit.Fld Z h' x ST "coder" "B" (.int 0) ∧
  ∃ (t : Addr) (kb : ClassId), n0 ≤ t ∧ h.size ≤ t ∧ ¬ t = x ∧ RoadKit.Fld Z h' x ST "value" "[B" (.ref t) ∧ RoadKit.Arv Z h' t kb .byte N (bs.map Value.int) (.int 0)
/-- **new String(chars) AT A CALL, FOR THE WRITER**: a char[] of n known ints, each 0 to 255 -/
theorem backV {p : Program} {l : Launch} {e : Env} {R : Room} {s : State} {args : Array Value} {below : List Frame} {len W : Nat} {Z : State} {a0 : Array Value} {h : Heap} (hZ : Z.Warmed39 s.vm) (hw : ∀ d ∈ words, d.before a0 Z = true) {kI : Nat} (wi : (Jvm.Cond.instantiable ST kI).before a0 Z = true)
    {x b : Addr} {kC : ClassId} {cs bs : List Int32} {d v0 c0 : Value} {z N : Int32} {n n0 : Nat} (hx0 : n0 ≤ x) (hh0 : n0 ≤ h.size) (E : RoadKit.Exa Z h x ST) (V : RoadKit.Fld Z h x ST "value" "[B" v0) (C : RoadKit.Fld Z h x ST "coder" "B" c0) (K : RoadKit.Arv Z h b kC .char N (cs.map Value.int) d) (S : RoadKit.Sta Z h ST "COMPACT_STRINGS" "Z" (.int z)) (hz : ¬ z = 0)
    (hn : cs.length = n) (hN : N = Int32.ofNat n) (l0 : 0 < n) (l2 : n ≤ 4000) (hp : ∀ c ∈ cs, ¬ c < 0 ∧ ¬ (255 : Int32) < c) (hb : bs = cs.map (fun c => c.toInt8.toInt32)) (hfr : 4 ≤ R.frames) (hlo : W + 65 ≤ R.locals) :
    Back l R p e below s args (⟨"java/lang/String", "<init>", "([C)V"⟩ : MethodName) len W (fun P a => a = #[.ref x, .ref b] ∧ P.U.heap = h ∧ P.cells + 1 ≤ R.cells ∧ P.slots + n ≤ R.slots)
      (fun P _ v B => ∃ L, QV Z x N bs h n0 v B.U.heap L ∧ B.locs = P.locs ++ L ∧ B.cells = P.cells + 1 ∧ B.slots = P.slots + n) := by
  subst hn hN hb
  refine Back.mono (backArv hZ hw wi E V C K S hz (n32 (by omega)) l0 (by omega) (fun c hc => (hp c hc).2) hfr hlo) (fun P a hp => hp) (fun P a v B hp hq => ?_)
  obtain ⟨L, ⟨q1, q2, q3, q4, q5, q6, q7, ⟨kb, v1, v2⟩, q9⟩, hl, hc, hs⟩ := hq
  exact ⟨L, ⟨q1, fun y hy => by rw [q2 y hy]; exact hx0, q3, q5, q7, h.size, kb, hh0, Nat.le_refl _, Nat.ne_of_gt E.lt, q6, by rw [List.map_map]; exact v2⟩, hl, hc, hs⟩
end StrChars.Road
namespace StrChars
open Jvm Sem ClassFile Op Lib Jvm.Stand Jvm.Free.XT Jvm.Free.ALB Jvm.Free.JM Jvm.Free
open Jvm.Lib.Cold (StaticIs)
def hi8 (x : Int32) : Int32 := lo8 (x >>> ((8 : Int32) &&& 31))
/-- what StringUTF16.getChar makes of two bytes -/
def pairCh (u v : Int32) : Int32 := (((u &&& 255) <<< ((0 : Int32) &&& 31)) ||| ((v &&& 255) <<< ((8 : Int32) &&& 31))).toUInt32.toUInt16.toUInt32.toInt32
theorem shr0 (c : Int32) : c >>> ((0 : Int32) &&& 31) = c := by
  have e : ((0 : Int32) &&& 31) = 0 := by decide
  rw [e]
  apply Int32.toBitVec_inj.mp
  rw [Int32.toBitVec_shiftRight]
  have e1 : ((0 : Int32).toBitVec.smod 32) = 0#32 := by decide
  rw [e1, BitVec.sshiftRight_eq']
  exact BitVec.sshiftRight_zero
theorem lo8_and (x : Int32) : (lo8 x &&& 255).toBitVec.toNat = x.toBitVec.toNat % 256 := by
  have h : (lo8 x).toBitVec = (x.toBitVec.signExtend 8).signExtend 32 := by rw [lo8, Int8.toBitVec_toInt32, Int32.toBitVec_toInt8]
  rw [Int32.toBitVec_and, BitVec.toNat_and, h]
  have e : ((x.toBitVec.signExtend 8).signExtend 32).toNat % 256 = x.toBitVec.toNat % 256 := by
    rw [BitVec.toNat_signExtend]
    have hlt := x.toBitVec.isLt
    simp only [BitVec.toNat_setWidth, BitVec.toNat_signExtend]
    split <;> split <;> omega
  rw [← e]
  exact Nat.and_two_pow_sub_one_eq_mod _ 8
theorem pair_says {c : Int32} (h0 : ¬ c < 0) (h1 : ¬ 65535 < c) : pairCh (lo8 c) (hi8 c) = c := by
  rw [Int32.lt_iff_toInt_lt] at h0 h1
  have e0 : (0 : Int32).toInt = 0 := rfl
  have e1 : (65535 : Int32).toInt = 65535 := rfl
  have hc : c.toInt = c.toBitVec.toNat := by
    have := c.toBitVec.isLt
    have e : c.toInt = c.toBitVec.toInt := rfl
    rw [e] at h0 h1
    rw [e]
    rw [BitVec.toInt_eq_toNat_cond] at h0 h1 ⊢
    split at h0 <;> split <;> omega
  have hn : c.toBitVec.toNat < 65536 := by omega
  have a1 := lo8_and c
  have a2 : (hi8 c &&& 255).toBitVec.toNat = c.toBitVec.toNat / 256 := by
    rw [hi8, lo8_and]
    have e : ((8 : Int32) &&& 31) = 8 := by decide
    rw [e, Int32.toBitVec_shiftRight]
    have e2 : ((8 : Int32).toBitVec.smod 32) = 8#32 := by decide
    rw [e2, BitVec.sshiftRight_eq', BitVec.toNat_sshiftRight_of_msb_false (by rw [BitVec.msb_eq_false_iff_two_mul_lt]; omega)]
    show c.toBitVec.toNat >>> 8 % 256 = _
    rw [Nat.shiftRight_eq_div_pow]
    omega
  unfold pairCh
  apply Int32.toBitVec_inj.mp
  apply BitVec.eq_of_toNat_eq
  have f0 : ((0 : Int32) &&& 31) = 0 := by decide
  have f8 : ((8 : Int32) &&& 31) = 8 := by decide
  rw [f0, f8]
  have g : (((lo8 c &&& 255) <<< (0 : Int32)) ||| ((hi8 c &&& 255) <<< (8 : Int32))).toBitVec.toNat = c.toBitVec.toNat := by
    rw [Int32.toBitVec_or, Int32.toBitVec_shiftLeft, Int32.toBitVec_shiftLeft]
    have s0 : ((0 : Int32).toBitVec.smod 32) = 0#32 := by decide
    have s8 : ((8 : Int32).toBitVec.smod 32) = 8#32 := by decide
    rw [s0, s8, BitVec.toNat_or]
    simp only [BitVec.shiftLeft_eq', BitVec.toNat_shiftLeft, a1, a2]
    show (c.toBitVec.toNat % 256) <<< 0 % 2 ^ 32 ||| (c.toBitVec.toNat / 256) <<< 8 % 2 ^ 32 = _
    rw [Nat.shiftLeft_zero, Nat.mod_eq_of_lt (show c.toBitVec.toNat % 256 < 2 ^ 32 by omega), Nat.mod_eq_of_lt (show (c.toBitVec.toNat / 256) <<< 8 < 2 ^ 32 by rw [Nat.shiftLeft_eq]; omega), Nat.or_comm, ← Nat.shiftLeft_add_eq_or_of_lt (by omega), Nat.shiftLeft_eq]
    omega
  show BitVec.toNat (((((lo8 c &&& 255) <<< (0 : Int32)) ||| ((hi8 c &&& 255) <<< (8 : Int32))).toBitVec.setWidth 16).setWidth 32) = _
  rw [BitVec.toNat_setWidth, BitVec.toNat_setWidth, g]
  omega
end StrChars
namespace StrChars
open Jvm Sem ClassFile Op Lib Jvm.Stand Jvm.Free.XT Jvm.Free.ALB Jvm.Free.JM Jvm.Free
open Jvm.Lib.Cold (StaticIs)
theorem shr1 {n : Nat} (h : 2 * n < 2 ^ 31) : Int32.ofNat (2 * n) >>> ((1 : Int32) &&& 31) = Int32.ofNat n := by
  have e : ((1 : Int32) &&& 31) = 1 := by decide
  rw [e]
  apply Int32.toBitVec_inj.mp
  rw [Int32.toBitVec_shiftRight]
  have e1 : ((1 : Int32).toBitVec.smod 32) = 1#32 := by decide
  have hm : (BitVec.ofNat 32 (2 * n)).toNat = 2 * n := by rw [BitVec.toNat_ofNat, Nat.mod_eq_of_lt (by omega)]
  rw [e1, BitVec.sshiftRight_eq']
  apply BitVec.eq_of_toNat_eq
  show ((BitVec.ofNat 32 (2 * n)).sshiftRight 1).toNat = (BitVec.ofNat 32 n).toNat
  rw [BitVec.toNat_sshiftRight_of_msb_false (by rw [BitVec.msb_eq_false_iff_two_mul_lt, hm]; omega), hm, BitVec.toNat_ofNat, Nat.shiftRight_eq_div_pow]
  omega
/-- charAt's cast of a byte read back -/
def chr8 (u : Int32) : Int32 := (u &&& 255).toUInt32.toUInt16.toUInt32.toInt32
theorem chr8_lo8 {c : Int32} (h0 : ¬ c < 0) (h1 : ¬ 255 < c) : chr8 (lo8 c) = c := by
  have t : ∀ k : Fin 256, (Int32.ofNat k.val).toUInt32.toUInt16.toUInt32.toInt32 = Int32.ofNat k.val := by decide +kernel
  unfold chr8
  rw [lo8_mask h0 h1]
  rw [Int32.lt_iff_toInt_lt] at h0 h1
  have e0 : (0 : Int32).toInt = 0 := rfl
  have e1 : (255 : Int32).toInt = 255 := rfl
  obtain ⟨k, hk⟩ : ∃ k : Nat, c.toInt = k := ⟨c.toInt.toNat, by omega⟩
  have hx : c = Int32.ofNat k := Int32.toInt_inj.mp (by rw [hk, Int32.toInt_ofNat_small (by omega)])
  rw [hx]
  exact t ⟨k, by omega⟩
theorem narrow_ch {c : Int32} (h0 : ¬ c < 0) (h1 : ¬ 65535 < c) : narrow .char (.int c) = .int c := by
  have q : narrow .char (.int (pairCh (lo8 c) (hi8 c))) = .int (pairCh (lo8 c) (hi8 c)) := narrow_c _
  rwa [pair_says h0 h1] at q
/-- the array's cell V codes the n chars f 0 .. f (n - 1) by the coder cd, as the JDK does: coder 1 just where some char is above 255 -/
def Cod (cd : Int32) (n : Nat) (f : Nat → Int32) (V : Cell) : Prop := (cd = 0 ∧ V.slots.size = n ∧ ∀ j, j < n → V.slots[j]? = some (.int (lo8 (f j))) ∧ ¬ 255 < f j) ∨ (cd = 1 ∧ V.slots.size = 2 * n ∧ (∀ j, j < n → V.slots[2 * j]? = some (.int (lo8 (f j))) ∧ V.slots[2 * j + 1]? = some (.int (hi8 (f j)))) ∧ ∃ j, j < n ∧ 255 < f j)
theorem Cod.cd {cd : Int32} {n : Nat} {f : Nat → Int32} {V : Cell} (h : Cod cd n f V) : cd = 0 ∨ cd = 1 := h.imp (fun q => q.1) fun q => q.1
theorem Cod.len {cd : Int32} {n : Nat} {f : Nat → Int32} {V : Cell} (h : Cod cd n f V) (hs : V.slots.size < 2 ^ 31) : Int32.ofNat V.slots.size >>> (cd &&& 31) = Int32.ofNat n := by
  rcases h with ⟨rfl, h, -⟩ | ⟨rfl, h, -⟩
  · rw [shr0, h]
  · rw [h, shr1 (by omega)]
/-- **x is a String of the n chars f 0 .. f (n - 1)**, Latin-1 or UTF-16; its array at t has the cell V -/
def Txt (x t : Addr) (V : Cell) (cd : Int32) (n : Nat) (f : Nat → Int32) (U : State) : Prop := Exact "java/lang/String" x U ∧ Has x "java/lang/String" "value" "[B" (.ref t) U ∧ Has x "java/lang/String" "coder" "B" (.int cd) U ∧ XT.Arr .byte t V U ∧ Cod cd n f V ∧ ∀ j, j < n → ¬ f j < 0 ∧ ¬ 65535 < f j
theorem Txt.mv {x t : Addr} {V : Cell} {cd : Int32} {n : Nat} {f : Nat → Int32} {U U' : State} (h : Txt x t V cd n f U) (hal : U.vm.Alike U'.vm) (hh : U'.heap = U.heap) : Txt x t V cd n f U' := ⟨h.1.mv hal hh, h.2.1.mv hal hh, h.2.2.1.mv hal hh, h.2.2.2.1.mv hal hh, h.2.2.2.2⟩
namespace Cdr
def yN : MethodName := ⟨"java/lang/String", "coder", "()B"⟩
abbrev yB : ByteArray := jdk_42_method_152_code
theorem d0 : decode yB 0 = .ok (.getstatic 38, 3) := by decide +kernel
theorem d3 : decode yB 3 = .ok (.ifCond (.eq) 10, 3) := by decide +kernel
theorem d6 : decode yB 6 = .ok (.aload_n 0, 1) := by decide +kernel
theorem d7 : decode yB 7 = .ok (.getfield 15, 3) := by decide +kernel
theorem d10 : decode yB 10 = .ok (.goto 4, 3) := by decide +kernel
theorem d14 : decode yB 14 = .ok (.ireturn, 1) := by decide +kernel
def site : List Cond := [.fieldLink "java/lang/String" 38 "java/lang/String" "COMPACT_STRINGS" "Z", .fieldLink "java/lang/String" 15 "java/lang/String" "coder" "B"]
def tab : Cond := tabOf yN yB 1 (some .byte) site
def P (x : Addr) (cd z : Int32) (args : Array Value) (s : State) : Prop := args = #[.ref x] ∧ Has x "java/lang/String" "coder" "B" (.int cd) s ∧ (cd = 0 ∨ cd = 1) ∧ StaticIs s "java/lang/String" "COMPACT_STRINGS" "Z" (.int z) ∧ ¬ z = 0
def E (cd : Int32) (r : Option Value) (s u : State) : Prop := XT.PureE (some (.int cd)) r s u
theorem law (l : Launch) (x : Addr) (cd z : Int32) : Law l yN 1 0 0 0 yB 1 (some .byte) site (P x cd z) (E cd) [] 0 0 := by
  refine Law.of_walk (plainFor_of_name (by decide +kernel)) (by decide +kernel) (by decide +kernel) (by decide) (fun _ _ h => by rw [h.1]; rfl) (fun _ U U' hal hh h => ⟨h.1, h.2.1.mv hal hh, h.2.2.1, h.2.2.2.1.there hal hh, h.2.2.2.2⟩) (fun r U U' V V' h1 hal h2 h => XT.PureE.mv r U U' V V' h1 hal h2 h) ?_
  intro p e s m args below meth c s₁ X0 hexec hbytes hml hret hlk hnm hown hh0 W hP
  obtain ⟨rfl, hx, hc, s1, hz⟩ := hP
  have c1 : Steps p.tables e below (s₁.setTop (entryFrame m #[.ref x] 1)) (s₁.setTop (mkF m 0 #[.val (.ref x)] [])) := entry rfl
  obtain ⟨T2, X2, q2, st2⟩ := X0.sget hexec hown (wk W (.fieldLink "java/lang/String" 38 "java/lang/String" "COMPACT_STRINGS" "Z")) s1 (fun _ _ h => by rw [hh0]; exact h) (g := (mkF m 0 #[.val (.ref x)] [])) rfl (hb hbytes d0)
  have hh2 := q2.trans hh0
  have c3 : Steps p.tables e below (s₁.setTop (entryFrame m #[.ref x] 1)) (T2.setTop (mkF m 7 #[.val (.ref x)] [.ref x])) := (c1.trans (st2 _ (Steps.refl _))).trans (by
    refine XS.ifNo X2.here hexec rfl (hb hbytes d3) rfl (i0_eq_f hz) ?_
    refine XS.aloadN X2.here hexec rfl (hb hbytes d6) rfl rfl ?_
    exact Steps.refl _)
  obtain ⟨T4, X4, q4, st4⟩ := X2.hget hexec hown (wk W (.fieldLink "java/lang/String" 15 "java/lang/String" "coder" "B")) (hx.mv X2.warmed.alike hh2) (g := (mkF m 7 #[.val (.ref x)] [.ref x])) rfl (rest := []) rfl (hb hbytes d7)
  have c5 : Steps p.tables e below (s₁.setTop (entryFrame m #[.ref x] 1)) (T4.setTop (mkF m 14 #[.val (.ref x)] [.int cd])) := (c3.trans (st4 _ (Steps.refl _))).trans (by
    refine XS.goto X4.here hexec rfl (pc0 := 10) rfl (hb hbytes d10) (by decide) rfl ?_
    exact Steps.refl _)
  exact ⟨T4, some (.int cd), _, _, _, X4, rfl, rfl, rfl, (fun h => by cases h), ⟨rfl, q4.trans hh2⟩, fun fs hl => c5.trans (X4.ireturnOut hexec hret (by rcases hc with rfl | rfl <;> rfl) (Or.inr (Or.inr (Or.inl rfl))) (hb hbytes d14) hl)⟩
end Cdr
namespace Len
def yN : MethodName := ⟨"java/lang/String", "length", "()I"⟩
abbrev yB : ByteArray := jdk_42_method_54_code
theorem d0 : decode yB 0 = .ok (.aload_n 0, 1) := by decide +kernel
theorem d1 : decode yB 1 = .ok (.getfield 9, 3) := by decide +kernel
theorem d4 : decode yB 4 = .ok (.arraylength, 1) := by decide +kernel
theorem d5 : decode yB 5 = .ok (.aload_n 0, 1) := by decide +kernel
theorem d6 : decode yB 6 = .ok (.invokevirtual 335, 3) := by decide +kernel
theorem d9 : decode yB 9 = .ok (.ishr, 1) := by decide +kernel
theorem d10 : decode yB 10 = .ok (.ireturn, 1) := by decide +kernel
def site : List Cond := [.fieldLink "java/lang/String" 9 "java/lang/String" "value" "[B", Cdr.tab] ++ virtW "java/lang/String" 335 "java/lang/String" Cdr.yN Cdr.yN
def tab : Cond := tabOf yN yB 1 (some .int) site
def P (x t : Addr) (V : Cell) (cd : Int32) (n : Nat) (f : Nat → Int32) (z : Int32) (args : Array Value) (s : State) : Prop := args = #[.ref x] ∧ Txt x t V cd n f s ∧ StaticIs s "java/lang/String" "COMPACT_STRINGS" "Z" (.int z) ∧ ¬ z = 0
def E (n : Nat) (r : Option Value) (s u : State) : Prop := XT.PureE (some (.int (Int32.ofNat n))) r s u
/-- length() of a String of n chars, in either coding -/
theorem law (l : Launch) (x t : Addr) (V : Cell) (cd : Int32) (n : Nat) (f : Nat → Int32) (z : Int32) : Law l yN 1 0 1 13 yB 1 (some .int) site (P x t V cd n f z) (E n) [] 0 0 := by
  refine Law.of_walk (plainFor_of_name (by decide +kernel)) (by decide +kernel) (by decide +kernel) (by decide) (fun _ _ h => by rw [h.1]; rfl) (fun _ U U' hal hh h => ⟨h.1, h.2.1.mv hal hh, h.2.2.1.there hal hh, h.2.2.2⟩) (fun r U U' V V' h1 hal h2 h => XT.PureE.mv r U U' V V' h1 hal h2 h) ?_
  intro p e s m args below meth c s₁ X0 hexec hbytes hml hret hlk hnm hown hh0 W hP
  obtain ⟨rfl, hx, s1, hz⟩ := hP
  have v31 := hx.2.2.2.1.2.2.2
  have c1 : Steps p.tables e below (s₁.setTop (entryFrame m #[.ref x] 1)) (s₁.setTop (mkF m 1 #[.val (.ref x)] [.ref x])) := Steps.trans (entry rfl) (by
    show Steps p.tables e below (s₁.setTop (mkF m 0 #[.val (.ref x)] [])) _
    refine XS.aloadN X0.here hexec rfl (hb hbytes d0) rfl rfl ?_
    exact Steps.refl _)
  obtain ⟨T2, X2, q2, st2⟩ := X0.hget hexec hown (wk W (.fieldLink "java/lang/String" 9 "java/lang/String" "value" "[B")) (hx.mv X0.warmed.alike hh0).2.1 (g := (mkF m 1 #[.val (.ref x)] [.ref x])) rfl (rest := []) rfl (hb hbytes d1)
  have hh2 := q2.trans hh0
  have hx2 := hx.mv X2.warmed.alike hh2
  have c3 : Steps p.tables e below (s₁.setTop (entryFrame m #[.ref x] 1)) (T2.setTop (mkF m 6 #[.val (.ref x)] [.ref x, .int (Int32.ofNat V.slots.size)])) := (c1.trans (st2 _ (Steps.refl _))).trans (by
    refine X2.alen hexec hx2.2.2.2.1 rfl rfl (hb hbytes d4) ?_
    refine XS.aloadN X2.here hexec rfl (hb hbytes d5) rfl rfl ?_
    exact Steps.refl _)
  obtain ⟨v4, T4, X4, E4, g4⟩ := X2.callV hexec (Cdr.law l x cd z) hown (wks W (virtW "java/lang/String" 335 "java/lang/String" Cdr.yN Cdr.yN)) rfl (by decide) (wk W Cdr.tab) (W := 1) (Nat.le_of_ble_eq_true rfl) (Nat.le_of_ble_eq_true rfl) (Nat.le_refl _) (Nat.le_refl _) (hx2.1.fc X2.warmed.alike) hx2.1.is (g := (mkF m 6 #[.val (.ref x)] [.ref x, .int (Int32.ofNat V.slots.size)])) rfl (by rw [hml]; rfl) c3 (argsL := []) (rest := [.int (Int32.ofNat V.slots.size)]) rfl rfl (by show 2 * 0 + (1 + 0) ≤ _; decide) (hb hbytes d6) (⟨rfl, hx2.2.2.1, hx.2.2.2.2.1.cd, s1.there X2.warmed.alike hh2, hz⟩)
  obtain ⟨rfl, q4⟩ := E4
  have c5 : Steps p.tables e below (s₁.setTop (entryFrame m #[.ref x] 1)) (T4.setTop (mkF m 10 #[.val (.ref x)] [.int (Int32.ofNat V.slots.size >>> (cd &&& 31))])) := Steps.trans g4 (by
    refine ishr X4.here hexec rfl (hb hbytes d9) rfl ?_
    exact Steps.refl _)
  rw [hx.2.2.2.2.1.len v31] at c5
  exact ⟨T4, some (.int (Int32.ofNat n)), _, _, _, X4, rfl, rfl, rfl, (fun h => by cases h), ⟨rfl, q4.trans hh2⟩, fun fs hl => c5.trans (X4.ireturnOut hexec hret rfl (Or.inl rfl) (hb hbytes d10) hl)⟩
theorem pays {l : Launch} {R : Room} {p : Program} {e : Env} {below : List Frame} {s : State} {sargs : Array Value} {len W : Nat} (x t : Addr) (V : Cell) (cd : Int32) (n : Nat) (f : Nat → Int32) (z : Int32) (htab : tab.before sargs s = true) (hfr : 2 ≤ R.frames) (hlo : W + 25 ≤ R.locals) :
    Back l R p e below s sargs yN len W (fun A₁ a₁ => A₁.cells + 0 ≤ R.cells ∧ A₁.slots + 0 ≤ R.slots ∧ P x t V cd n f z a₁ A₁.U) (fun A₁ _ v₁ B₁ => E n v₁ A₁.U B₁.U ∧ B₁.locs = A₁.locs ++ [] ∧ B₁.cells = A₁.cells + 0 ∧ B₁.slots = A₁.slots + 0) :=
  (law l x t V cd n f z).pays htab hfr (by omega)
end Len
namespace IsL
def yN : MethodName := ⟨"java/lang/String", "isLatin1", "()Z"⟩
abbrev yB : ByteArray := jdk_42_method_154_code
theorem d0 : decode yB 0 = .ok (.getstatic 38, 3) := by decide +kernel
theorem d3 : decode yB 3 = .ok (.ifCond (.eq) 14, 3) := by decide +kernel
theorem d6 : decode yB 6 = .ok (.aload_n 0, 1) := by decide +kernel
theorem d7 : decode yB 7 = .ok (.getfield 15, 3) := by decide +kernel
theorem d10 : decode yB 10 = .ok (.ifCond (.ne) 7, 3) := by decide +kernel
theorem d13 : decode yB 13 = .ok (.iconst 1, 1) := by decide +kernel
theorem d14 : decode yB 14 = .ok (.goto 4, 3) := by decide +kernel
theorem d17 : decode yB 17 = .ok (.iconst 0, 1) := by decide +kernel
theorem d18 : decode yB 18 = .ok (.ireturn, 1) := by decide +kernel
def site : List Cond := [.fieldLink "java/lang/String" 38 "java/lang/String" "COMPACT_STRINGS" "Z", .fieldLink "java/lang/String" 15 "java/lang/String" "coder" "B"]
def tab : Cond := tabOf yN yB 1 (some .boolean) site
def P (x : Addr) (cd z : Int32) (args : Array Value) (s : State) : Prop := args = #[.ref x] ∧ Has x "java/lang/String" "coder" "B" (.int cd) s ∧ (cd = 0 ∨ cd = 1) ∧ StaticIs s "java/lang/String" "COMPACT_STRINGS" "Z" (.int z) ∧ ¬ z = 0
def E (cd : Int32) (r : Option Value) (s u : State) : Prop := XT.PureE (some (.int (1 - cd))) r s u
theorem law (l : Launch) (x : Addr) (cd z : Int32) : Law l yN 1 0 0 0 yB 1 (some .boolean) site (P x cd z) (E cd) [] 0 0 := by
  refine Law.of_walk (plainFor_of_name (by decide +kernel)) (by decide +kernel) (by decide +kernel) (by decide) (fun _ _ h => by rw [h.1]; rfl) (fun _ U U' hal hh h => ⟨h.1, h.2.1.mv hal hh, h.2.2.1, h.2.2.2.1.there hal hh, h.2.2.2.2⟩) (fun r U U' V V' h1 hal h2 h => XT.PureE.mv r U U' V V' h1 hal h2 h) ?_
  intro p e s m args below meth c s₁ X0 hexec hbytes hml hret hlk hnm hown hh0 W hP
  obtain ⟨rfl, hx, hc, s1, hz⟩ := hP
  have c1 : Steps p.tables e below (s₁.setTop (entryFrame m #[.ref x] 1)) (s₁.setTop (mkF m 0 #[.val (.ref x)] [])) := entry rfl
  obtain ⟨T2, X2, q2, st2⟩ := X0.sget hexec hown (wk W (.fieldLink "java/lang/String" 38 "java/lang/String" "COMPACT_STRINGS" "Z")) s1 (fun _ _ h => by rw [hh0]; exact h) (g := (mkF m 0 #[.val (.ref x)] [])) rfl (hb hbytes d0)
  have hh2 := q2.trans hh0
  have c3 : Steps p.tables e below (s₁.setTop (entryFrame m #[.ref x] 1)) (T2.setTop (mkF m 7 #[.val (.ref x)] [.ref x])) := (c1.trans (st2 _ (Steps.refl _))).trans (by
    refine XS.ifNo X2.here hexec rfl (hb hbytes d3) rfl (i0_eq_f hz) ?_
    refine XS.aloadN X2.here hexec rfl (hb hbytes d6) rfl rfl ?_
    exact Steps.refl _)
  obtain ⟨T4, X4, q4, st4⟩ := X2.hget hexec hown (wk W (.fieldLink "java/lang/String" 15 "java/lang/String" "coder" "B")) (hx.mv X2.warmed.alike hh2) (g := (mkF m 7 #[.val (.ref x)] [.ref x])) rfl (rest := []) rfl (hb hbytes d7)
  have c5 : Steps p.tables e below (s₁.setTop (entryFrame m #[.ref x] 1)) (T4.setTop (mkF m 10 #[.val (.ref x)] [.int cd])) := c3.trans (st4 _ (Steps.refl _))
  have c6 : Steps p.tables e below (s₁.setTop (entryFrame m #[.ref x] 1)) (T4.setTop (mkF m 18 #[.val (.ref x)] [.int (1 - cd)])) := by
    rcases hc with rfl | rfl
    · exact c5.trans (by
        refine XS.ifNo X4.here hexec rfl (hb hbytes d10) rfl (i0_ne_f rfl) ?_
        refine iconstV X4.here hexec rfl 1 (hb hbytes d13) (by decide) ?_
        refine XS.goto X4.here hexec rfl (pc0 := 14) rfl (hb hbytes d14) (by decide) rfl ?_
        exact Steps.refl _)
    · exact c5.trans (by
        refine XS.ifYes X4.here hexec rfl (pc0 := 10) rfl (hb hbytes d10) rfl (i0_ne_t (by decide)) (by decide) rfl ?_
        refine iconstV X4.here hexec rfl 0 (hb hbytes d17) (by decide) ?_
        exact Steps.refl _)
  exact ⟨T4, some (.int (1 - cd)), _, _, _, X4, rfl, rfl, rfl, (fun h => by cases h), ⟨rfl, q4.trans hh2⟩, fun fs hl => c6.trans (X4.ireturnOut hexec hret (by rcases hc with rfl | rfl <;> rfl) (Or.inr (Or.inl rfl)) (hb hbytes d18) hl)⟩
end IsL
namespace LChA
def yN : MethodName := ⟨"java/lang/StringLatin1", "charAt", "([BI)C"⟩
abbrev yB : ByteArray := jdk_43_method_2_code
theorem d0 : decode yB 0 = .ok (.iload_n 1, 1) := by decide +kernel
theorem d1 : decode yB 1 = .ok (.aload_n 0, 1) := by decide +kernel
theorem d2 : decode yB 2 = .ok (.arraylength, 1) := by decide +kernel
theorem d3 : decode yB 3 = .ok (.invokestatic 9, 3) := by decide +kernel
theorem d6 : decode yB 6 = .ok (.aload_n 0, 1) := by decide +kernel
theorem d7 : decode yB 7 = .ok (.iload_n 1, 1) := by decide +kernel
theorem d8 : decode yB 8 = .ok (.baload, 1) := by decide +kernel
theorem d9 : decode yB 9 = .ok (.sipush 255, 3) := by decide +kernel
theorem d12 : decode yB 12 = .ok (.iand, 1) := by decide +kernel
theorem d13 : decode yB 13 = .ok (.i2c, 1) := by decide +kernel
theorem d14 : decode yB 14 = .ok (.ireturn, 1) := by decide +kernel
def site : List Cond := [JO.Str_checkIndex.tab] ++ staticW "java/lang/StringLatin1" 9 JO.Str_checkIndex.yN
def tab : Cond := tabOf yN yB 2 (some .char) site
def P (t : Addr) (V : Cell) (i : Nat) (u : Int32) (fm : Value) (args : Array Value) (s : State) : Prop := args = #[.ref t, .int (Int32.ofNat i)] ∧ XT.Arr .byte t V s ∧ V.slots[i]? = some (.int u) ∧ (StaticIs s "jdk/internal/util/Preconditions" "SIOOBE_FORMATTER" "Ljava/util/function/BiFunction;" fm ∧ fm.isRef = true)
def E (u : Int32) (r : Option Value) (s w : State) : Prop := XT.PureE (some (.int (chr8 u))) r s w
theorem law (l : Launch) (t : Addr) (V : Cell) (i : Nat) (u : Int32) (fm : Value) : Law l yN 2 2 2 27 yB 2 (some .char) site (P t V i u fm) (E u) [] 0 0 := by
  refine Law.of_walk (plainFor_of_name (by decide +kernel)) (by decide +kernel) (by decide +kernel) (by decide) (fun _ _ h => by rw [h.1]; rfl) (fun _ U U' hal hh h => ⟨h.1, h.2.1.mv hal hh, h.2.2.1, h.2.2.2.1.there hal hh, h.2.2.2.2⟩) (fun r U U' V V' h1 hal h2 h => XT.PureE.mv r U U' V V' h1 hal h2 h) ?_
  intro p e s m args below meth c s₁ X0 hexec hbytes hml hret hlk hnm hown hh0 W hP
  obtain ⟨rfl, hV, hu, s1, rf⟩ := hP
  have v31 := hV.2.2.2
  have hi : i < V.slots.size := (Array.getElem?_eq_some_iff.mp hu).1
  have c1 : Steps p.tables e below (s₁.setTop (entryFrame m #[.ref t, .int (Int32.ofNat i)] 2)) (s₁.setTop (mkF m 0 #[.val (.ref t), .val (.int (Int32.ofNat i))] [])) := entry rfl
  have c2 : Steps p.tables e below (s₁.setTop (entryFrame m #[.ref t, .int (Int32.ofNat i)] 2)) (s₁.setTop (mkF m 3 #[.val (.ref t), .val (.int (Int32.ofNat i))] [.int (Int32.ofNat V.slots.size), .int (Int32.ofNat i)])) := c1.trans (by
    refine XS.iloadN X0.here hexec rfl (hb hbytes d0) rfl ?_
    refine XS.aloadN X0.here hexec rfl (hb hbytes d1) rfl rfl ?_
    refine X0.alen hexec (hV.mv X0.warmed.alike hh0) rfl rfl (hb hbytes d2) ?_
    exact Steps.refl _)
  obtain ⟨v3, T3, X3, E3, g3⟩ := X0.callS hexec (JO.Str_checkIndex.law l (Int32.ofNat i) (Int32.ofNat V.slots.size) fm) hown (wks W (staticW "java/lang/StringLatin1" 9 JO.Str_checkIndex.yN)) (wk W JO.Str_checkIndex.tab) (W := 0) (Nat.le_of_ble_eq_true rfl) (Nat.le_of_ble_eq_true rfl) (Nat.le_refl _) (Nat.le_refl _) (g := (mkF m 3 #[.val (.ref t), .val (.int (Int32.ofNat i))] [.int (Int32.ofNat V.slots.size), .int (Int32.ofNat i)])) rfl (by rw [hml]; rfl) c2 (argsL := [.int (Int32.ofNat i), .int (Int32.ofNat V.slots.size)]) (rest := []) rfl rfl (by show 2 * 0 + 0 ≤ _; decide) (hb hbytes d3) (⟨rfl, rf, s1.there X0.warmed.alike hh0, Int32.ofNat_not_neg (by omega), lt32 v31 hi⟩)
  obtain ⟨rfl, q3⟩ := E3
  have hh3 := q3.trans hh0
  have c4 : Steps p.tables e below (s₁.setTop (entryFrame m #[.ref t, .int (Int32.ofNat i)] 2)) (T3.setTop (mkF m 14 #[.val (.ref t), .val (.int (Int32.ofNat i))] [.int (chr8 u)])) := Steps.trans g3 (by
    refine XS.aloadN X3.here hexec rfl (hb hbytes d6) rfl rfl ?_
    refine XS.iloadN X3.here hexec rfl (hb hbytes d7) rfl ?_
    refine X3.aget hexec (hV.mv X3.warmed.alike hh3) rfl hu rfl rfl (hb hbytes d8) ?_
    refine sipushV X3.here hexec rfl 255 (hb hbytes d9) (by decide) ?_
    refine XS.iand X3.here hexec rfl (hb hbytes d12) rfl ?_
    refine i2c X3.here hexec rfl (hb hbytes d13) rfl ?_
    exact Steps.refl _)
  exact ⟨T3, some (.int (chr8 u)), _, _, _, X3, rfl, rfl, rfl, (fun h => by cases h), ⟨rfl, hh3⟩, fun fs hl => c4.trans (X3.ireturnOut hexec hret (narrow_c _) (Or.inr (Or.inr (Or.inr (Or.inl rfl)))) (hb hbytes d14) hl)⟩
end LChA
end StrChars
namespace StrChars.Road
open Jvm Sem ClassFile Op Lib Jvm.Stand Jvm.Free Jvm.Free.XT
open Jvm.Lib.Cold (StaticIs)
theorem consq {a : Array Value} {s : State} {c : Jvm.Cond} {L : List Jvm.Cond} (h0 : c.before a s = true) (h : ∀ w ∈ L, w.before a s = true) : ∀ w ∈ c :: L, w.before a s = true := fun w hw => (List.mem_cons.mp hw).elim (fun e => e ▸ h0) (h w)
/-- the words of String.length(), either coding -/
abbrev wordsLen : List Jvm.Cond := [.code Len.yN Len.yB 1 (some .int), .initialized ST, .fieldLink ST 9 ST "value" "[B", .fieldLink ST 38 ST "COMPACT_STRINGS" "Z", .fieldLink ST 15 ST "coder" "B", .code Cdr.yN Cdr.yB 1 (some .byte), .methodLink ST 335 Cdr.yN, .declares Cdr.yN, .selects ST Cdr.yN Cdr.yN, .instanceMethod Cdr.yN]
theorem tabLen_of {a : Array Value} {s : State} (h : ∀ w ∈ wordsLen, w.before a s = true) : Len.tab.before a s = true := by
  have hc : Cdr.tab.before a s = true := unparts (wk h (.code Cdr.yN Cdr.yB 1 (some .byte))) (wks h (.initialized Cdr.yN.cls :: Cdr.site))
  have q := consq hc h
  exact unparts (wk q (.code Len.yN Len.yB 1 (some .int))) (wks q (.initialized Len.yN.cls :: Len.site))
theorem movedLen {Z s : State} {a0 args : Array Value} (hZ : Z.Warmed39 s.vm) (hw : ∀ d ∈ wordsLen, d.before a0 Z = true) : ∀ d ∈ wordsLen, d.before args s = true := fun d hd => by
  have q := hw d hd
  have t : ∀ d ∈ wordsLen, d = .arrayClass .byte ∨ (d.onTables && d.keepsFace) = true := by decide +kernel
  rcases t d hd with rfl | t
  · exact RoadKit.mvA hZ q
  · exact RoadKit.mv hZ q t
/-- the bytes of the chars cs, low before high -/
def wideBytes : List Int32 → List Value
  | [] => []
  | c :: cs => .int (lo8 c) :: .int (hi8 c) :: wideBytes cs
theorem wide_lo (d : Value) : ∀ (cs : List Int32) (j : Nat), j < cs.length → (wideBytes cs).getD (2 * j) d = .int (lo8 (cs.getD j 0))
  | [], j, h => absurd h (Nat.not_lt_zero j)
  | c :: cs, 0, _ => rfl
  | c :: cs, j + 1, h => by
    have q := wide_lo d cs j (by simpa using h)
    rw [show 2 * (j + 1) = 2 * j + 1 + 1 from by omega]
    simpa [wideBytes] using q
theorem wide_hi (d : Value) : ∀ (cs : List Int32) (j : Nat), j < cs.length → (wideBytes cs).getD (2 * j + 1) d = .int (hi8 (cs.getD j 0))
  | [], j, h => absurd h (Nat.not_lt_zero j)
  | c :: cs, 0, _ => rfl
  | c :: cs, j + 1, h => by
    have q := wide_hi d cs j (by simpa using h)
    rw [show 2 * (j + 1) + 1 = 2 * j + 1 + 1 + 1 from by omega]
    simpa [wideBytes] using q
theorem low_at (d : Value) (cs : List Int32) (j : Nat) (h : j < cs.length) : (cs.map fun c => Value.int (lo8 c)).getD j d = .int (lo8 (cs.getD j 0)) := by
  simp [List.getD_eq_getElem?_getD, h]
/-- an array of N2 bytes vs codes the chars cs by the coder cd -/
def CodA (cs : List Int32) (cd N2 : Int32) (vs : List Value) : Prop := (cd = 0 ∧ N2 = Int32.ofNat cs.length ∧ vs = (cs.map fun c => Value.int (lo8 c)) ∧ ∀ c ∈ cs, ¬ 255 < c) ∨ (cd = 1 ∧ N2 = Int32.ofNat (2 * cs.length) ∧ vs = wideBytes cs ∧ ∃ c ∈ cs, 255 < c)
theorem CodA.cod {cs : List Int32} {cd N2 : Int32} {vs : List Value} {V : Cell} (h : CodA cs cd N2 vs) (hn : 2 * cs.length < 2 ^ 31) (hs : V.slots.size = N2.toNatClampNeg) (hv : RoadKit.Has V vs (.int 0)) : Cod cd cs.length (fun j => cs.getD j 0) V := by
  rcases h with ⟨rfl, rfl, rfl, h⟩ | ⟨rfl, rfl, rfl, c, hc, hw⟩
  · rw [n32 (by omega)] at hs
    exact Or.inl ⟨rfl, hs, fun j hj => ⟨by rw [hv j (by omega), low_at _ _ _ hj], by
      have e : cs.getD j 0 = cs[j] := by simp [List.getD_eq_getElem?_getD, hj]
      show ¬ 255 < cs.getD j 0
      rw [e]; exact h _ (List.getElem_mem _)⟩⟩
  · rw [n32 (by omega)] at hs
    obtain ⟨j, hj, rfl⟩ := List.getElem_of_mem hc
    exact Or.inr ⟨rfl, hs, fun j hj => ⟨by rw [hv _ (by omega), wide_lo _ _ _ hj], by rw [hv _ (by omega), wide_hi _ _ _ hj]⟩, j, hj, by
      have e : cs.getD j 0 = cs[j] := by simp [List.getD_eq_getElem?_getD, hj]
      show 255 < cs.getD j 0
      rw [e]; exact hw⟩
/-- an object of exactly java/lang/String, its two fields found: as the laws ask it -/
theorem strObj {Z U : State} {a0 : Array Value} {kI : Nat} (wi : (Jvm.Cond.instantiable ST kI).before a0 Z = true) (al : Z.vm.Alike U.vm) {x : Addr} {v0 c0 : Value} (E : RoadKit.Exa Z U.heap x ST) (V : RoadKit.Fld Z U.heap x ST "value" "[B" v0) (C : RoadKit.Fld Z U.heap x ST "coder" "B" c0) :
    ∃ (D : Cell) (fV fC : Field), Blank ST x D U ∧ Found ST "value" "[B" fV U ∧ Found ST "coder" "B" fC U ∧ D.slots[fV.slot]? = some v0 ∧ D.slots[fC.slot]? = some c0 ∧ RoadKit.slotOf Z ST "value" "[B" = fV.slot ∧ RoadKit.slotOf Z ST "coder" "B" = fC.slot := by
  obtain ⟨D, cfV, kV, iV, fV, hD, gV, stV, knV, obV, asV, slV⟩ := V
  obtain ⟨D', cfC, kC, iC, fC, hD', gC, stC, -, -, asC, slC⟩ := C
  cases hD.symm.trans hD'
  obtain ⟨D2, kD, e1, e2, e3, e4, e5⟩ := E
  cases hD.symm.trans e1
  obtain ⟨c2, k2, i1, i2, i3, -⟩ := Cond.instantiable_spec wi
  cases e2.symm.trans i1
  cases e3.symm.trans i2
  obtain ⟨kU, u1, u2⟩ := al.2.2 _ _ e3
  exact ⟨D, fV, fC, ⟨hD, ⟨knV, fun q hq => by rw [hq] at obV; cases obV⟩, by rw [al.findClass]; exact e2, kU, u1, by rw [u2]; exact i3, by rw [u2]; exact e5 i3⟩, ⟨SBG.found_only al ⟨cfV, kV, iV, gV⟩, stV⟩, ⟨SBG.found_only al ⟨cfC, kC, iC, gC⟩, stC⟩, slV, slC, by simp [RoadKit.slotOf, gV], by simp [RoadKit.slotOf, gC]⟩
theorem sta_is {Z U : State} (al : Z.vm.Alike U.vm) {C n d : String} {v : Value} (S : RoadKit.Sta Z U.heap C n d v) : StaticIs U C n d v := by
  obtain ⟨cfS, iS, kS, fS, st, cS, t1, t2, t3, t4, t5, t6, t7⟩ := S
  exact StaticIs.there (s := { Z with heap := U.heap }) ⟨cfS, iS, kS, fS, st, cS, t1, t2, t3, t4, t5, (fun q => by rw [q] at t6; cases t6), t7⟩ al rfl
/-- **length() OF SUCH A STRING** -/
theorem lenW {p : Program} {l : Launch} {e : Env} {R : Room} {s : State} {args : Array Value} {below : List Frame} {len W : Nat} {Z : State} {a0 : Array Value} {h : Heap} (hZ : Z.Warmed39 s.vm) (hw : ∀ d ∈ wordsLen, d.before a0 Z = true) {kI : Nat} (wi : (Jvm.Cond.instantiable ST kI).before a0 Z = true)
    {x t : Addr} {kb : ClassId} {cs : List Int32} {cd N2 z : Int32} {vs : List Value} (E : RoadKit.Exa Z h x ST) (V : RoadKit.Fld Z h x ST "value" "[B" (.ref t)) (C : RoadKit.Fld Z h x ST "coder" "B" (.int cd)) (K : RoadKit.Arv Z h t kb .byte N2 vs (.int 0)) (hc : CodA cs cd N2 vs) (hb : ∀ c ∈ cs, ¬ c < 0 ∧ ¬ (65535 : Int32) < c)
    (S : RoadKit.Sta Z h ST "COMPACT_STRINGS" "Z" (.int z)) (hz : ¬ z = 0) (l2 : cs.length ≤ 4000) (hfr : 2 ≤ R.frames) (hlo : W + 25 ≤ R.locals) :
    Back l R p e below s args (⟨"java/lang/String", "length", "()I"⟩ : MethodName) len W (fun P a => a = #[.ref x] ∧ P.U.heap = h ∧ P.cells + 0 ≤ R.cells ∧ P.slots + 0 ≤ R.slots)
      (fun P _ v B => ∃ L, (v = some (.int (Int32.ofNat cs.length)) ∧ L = [] ∧ B.U.heap = h) ∧ B.locs = P.locs ++ L ∧ B.cells = P.cells + 0 ∧ B.slots = P.slots + 0) := by
  obtain ⟨A, K1, K2, K3, K4, K5, K6⟩ := K
  have hcod := hc.cod (by omega) K3 K5
  intro m meth c P g ig mk a X hg hsize hdg hW hn hp'
  obtain ⟨rfl, rfl, r1, r2⟩ := hp'
  have al : Z.vm.Alike P.U.vm := hZ.alike.trans X.warmed.alike
  obtain ⟨D, fV, fC, hB, F1, F2, g1, g2, -, -⟩ := strObj wi al E V C
  have hx : Txt x t A cd cs.length (fun j => cs.getD j 0) P.U := ⟨⟨_, hB.2.2.1, D, hB.1, rfl, by cases q : D.vm <;> first | rfl | exact absurd q (hB.2.1.2 _)⟩, Has.of hB F1 g1, Has.of hB F2 g2, ⟨K1.1, State.isArrayOf_alike al K1.2.1, K1.2.2, by rcases hcod with ⟨-, q, -⟩ | ⟨-, q, -⟩ <;> omega⟩, hcod, fun j hj => by
    have e : cs.getD j 0 = cs[j] := by simp [List.getD_eq_getElem?_getD, hj]
    show ¬ cs.getD j 0 < 0 ∧ ¬ 65535 < cs.getD j 0
    rw [e]; exact hb _ (List.getElem_mem _)⟩
  obtain ⟨v, B, X', ⟨⟨hv, hh⟩, hl, hk, hs⟩, st⟩ := Len.pays x t A cd cs.length (fun j => cs.getD j 0) z (tabLen_of (movedLen hZ hw)) hfr hlo m meth c P g ig mk _ X hg hsize hdg hW hn ⟨r1, r2, rfl, hx, sta_is al S, hz⟩
  exact ⟨v, B, X', ⟨[], ⟨hv, rfl, hh⟩, hl, hk, hs⟩, st⟩
end StrChars.Road
namespace StrChars.Road
open Jvm Sem ClassFile Op Lib Jvm.Stand Jvm.Free Jvm.Free.XT
open Jvm.Lib.Cold (StaticIs)
/-- the road's facts of a String, as the laws ask it -/
theorem txt_of {Z U : State} {a0 : Array Value} {kI : Nat} (wi : (Jvm.Cond.instantiable ST kI).before a0 Z = true) (al : Z.vm.Alike U.vm) {x t : Addr} {kb : ClassId} {cs : List Int32} {cd N2 : Int32} {vs : List Value} (E : RoadKit.Exa Z U.heap x ST) (V : RoadKit.Fld Z U.heap x ST "value" "[B" (.ref t)) (C : RoadKit.Fld Z U.heap x ST "coder" "B" (.int cd)) (K : RoadKit.Arv Z U.heap t kb .byte N2 vs (.int 0)) (hc : CodA cs cd N2 vs) (hb : ∀ c ∈ cs, ¬ c < 0 ∧ ¬ (65535 : Int32) < c) (l2 : cs.length ≤ 4000) :
    ∃ A, Txt x t A cd cs.length (fun j => cs.getD j 0) U := by
  obtain ⟨A, K1, K2, K3, K4, K5, K6⟩ := K
  have hcod := hc.cod (by omega) K3 K5
  obtain ⟨D, fV, fC, hB, F1, F2, g1, g2, -, -⟩ := strObj wi al E V C
  exact ⟨A, ⟨_, hB.2.2.1, D, hB.1, rfl, by cases q : D.vm <;> first | rfl | exact absurd q (hB.2.1.2 _)⟩, Has.of hB F1 g1, Has.of hB F2 g2, ⟨K1.1, State.isArrayOf_alike al K1.2.1, K1.2.2, by rcases hcod with ⟨-, q, -⟩ | ⟨-, q, -⟩ <;> omega⟩, hcod, fun j hj => by
    have e : cs.getD j 0 = cs[j] := by simp [List.getD_eq_getElem?_getD, hj]
    show ¬ cs.getD j 0 < 0 ∧ ¬ 65535 < cs.getD j 0
    rw [e]; exact hb _ (List.getElem_mem _)⟩
end StrChars.Road
namespace StrChars
open Jvm Sem ClassFile Op Lib Jvm.Stand Jvm.Free.XT Jvm.Free.ALB Jvm.Free.JM Jvm.Free
open Jvm.Lib.Cold (StaticIs)
namespace ChN
def yN : MethodName := ⟨"java/lang/String", "charAt", "(I)C"⟩
abbrev yB : ByteArray := jdk_42_method_56_code
theorem d0 : decode yB 0 = .ok (.aload_n 0, 1) := by decide +kernel
theorem d1 : decode yB 1 = .ok (.invokevirtual 492, 3) := by decide +kernel
theorem d4 : decode yB 4 = .ok (.ifCond (.eq) 12, 3) := by decide +kernel
theorem d7 : decode yB 7 = .ok (.aload_n 0, 1) := by decide +kernel
theorem d8 : decode yB 8 = .ok (.getfield 9, 3) := by decide +kernel
theorem d11 : decode yB 11 = .ok (.iload_n 1, 1) := by decide +kernel
theorem d12 : decode yB 12 = .ok (.invokestatic 495, 3) := by decide +kernel
theorem d15 : decode yB 15 = .ok (.ireturn, 1) := by decide +kernel
def site : List Cond := [.fieldLink "java/lang/String" 9 "java/lang/String" "value" "[B", IsL.tab, LChA.tab] ++ virtW "java/lang/String" 492 "java/lang/String" IsL.yN IsL.yN ++ staticW "java/lang/String" 495 LChA.yN
def tab : Cond := tabOf yN yB 2 (some .char) site
def P (x t : Addr) (V : Cell) (n : Nat) (f : Nat → Int32) (z : Int32) (fm : Value) (i : Nat) (args : Array Value) (s : State) : Prop := args = #[.ref x, .int (Int32.ofNat i)] ∧ Txt x t V 0 n f s ∧ i < n ∧ StaticIs s "java/lang/String" "COMPACT_STRINGS" "Z" (.int z) ∧ ¬ z = 0 ∧ StaticIs s "jdk/internal/util/Preconditions" "SIOOBE_FORMATTER" "Ljava/util/function/BiFunction;" fm ∧ fm.isRef = true
def E (f : Nat → Int32) (i : Nat) (r : Option Value) (s u : State) : Prop := XT.PureE (some (.int (f i))) r s u
/-- charAt(i) of a Latin-1 String of n chars, i < n: f i -/
theorem law (l : Launch) (x t : Addr) (V : Cell) (n : Nat) (f : Nat → Int32) (z : Int32) (fm : Value) (i : Nat) : Law l yN 2 1 3 40 yB 2 (some .char) site (P x t V n f z fm i) (E f i) [] 0 0 := by
  refine Law.of_walk (plainFor_of_name (by decide +kernel)) (by decide +kernel) (by decide +kernel) (by decide) (fun _ _ h => by rw [h.1]; rfl) (fun _ U U' hal hh h => ⟨h.1, h.2.1.mv hal hh, h.2.2.1, h.2.2.2.1.there hal hh, h.2.2.2.2.1, h.2.2.2.2.2.1.there hal hh, h.2.2.2.2.2.2⟩) (fun r U U' V V' h1 hal h2 h => XT.PureE.mv r U U' V V' h1 hal h2 h) ?_
  intro p e s m args below meth c s₁ X0 hexec hbytes hml hret hlk hnm hown hh0 W hP
  obtain ⟨rfl, hx, hi, s1, hz, s3, rf⟩ := hP
  have v31 := hx.2.2.2.1.2.2.2
  have hr := hx.2.2.2.2.2 i hi
  have hx0 := hx.mv X0.warmed.alike hh0
  have c1 : Steps p.tables e below (s₁.setTop (entryFrame m #[.ref x, .int (Int32.ofNat i)] 2)) (s₁.setTop (mkF m 1 #[.val (.ref x), .val (.int (Int32.ofNat i))] [.ref x])) := Steps.trans (entry rfl) (by
    show Steps p.tables e below (s₁.setTop (mkF m 0 #[.val (.ref x), .val (.int (Int32.ofNat i))] [])) _
    refine XS.aloadN X0.here hexec rfl (hb hbytes d0) rfl rfl ?_
    exact Steps.refl _)
  obtain ⟨v2, T2, X2, E2, g2⟩ := X0.callV hexec (IsL.law l x 0 z) hown (wks W (virtW "java/lang/String" 492 "java/lang/String" IsL.yN IsL.yN)) rfl (by decide) (wk W IsL.tab) (W := 0) (Nat.le_of_ble_eq_true rfl) (Nat.le_of_ble_eq_true rfl) (Nat.le_refl _) (Nat.le_refl _) (hx0.1.fc X0.warmed.alike) hx0.1.is (g := (mkF m 1 #[.val (.ref x), .val (.int (Int32.ofNat i))] [.ref x])) rfl (by rw [hml]; rfl) c1 (argsL := []) (rest := []) rfl rfl (by show 2 * 0 + 0 ≤ _; decide) (hb hbytes d1) (⟨rfl, hx0.2.2.1, hx.2.2.2.2.1.cd, s1.there X0.warmed.alike hh0, hz⟩)
  obtain ⟨rfl, q2⟩ := E2
  have hh2 := q2.trans hh0
  have hx2 := hx.mv X2.warmed.alike hh2
  obtain ⟨-, k1, k2⟩ | ⟨k0, -⟩ := hx.2.2.2.2.1
  · have c3 : Steps p.tables e below (s₁.setTop (entryFrame m #[.ref x, .int (Int32.ofNat i)] 2)) (T2.setTop (mkF m 8 #[.val (.ref x), .val (.int (Int32.ofNat i))] [.ref x])) := Steps.trans g2 (by
      refine XS.ifNo X2.here hexec rfl (hb hbytes d4) rfl (i0_eq_f (by decide)) ?_
      refine XS.aloadN X2.here hexec rfl (hb hbytes d7) rfl rfl ?_
      exact Steps.refl _)
    obtain ⟨T4, X4, q4, st4⟩ := X2.hget hexec hown (wk W (.fieldLink "java/lang/String" 9 "java/lang/String" "value" "[B")) hx2.2.1 (g := (mkF m 8 #[.val (.ref x), .val (.int (Int32.ofNat i))] [.ref x])) rfl (rest := []) rfl (hb hbytes d8)
    have hh4 := q4.trans hh2
    have c5 : Steps p.tables e below (s₁.setTop (entryFrame m #[.ref x, .int (Int32.ofNat i)] 2)) (T4.setTop (mkF m 12 #[.val (.ref x), .val (.int (Int32.ofNat i))] [.int (Int32.ofNat i), .ref t])) := (c3.trans (st4 _ (Steps.refl _))).trans (by
      refine XS.iloadN X4.here hexec rfl (hb hbytes d11) rfl ?_
      exact Steps.refl _)
    obtain ⟨v6, T6, X6, E6, g6⟩ := X4.callS hexec (LChA.law l t V i (lo8 (f i)) fm) hown (wks W (staticW "java/lang/String" 495 LChA.yN)) (wk W LChA.tab) (W := 0) (Nat.le_of_ble_eq_true rfl) (Nat.le_of_ble_eq_true rfl) (Nat.le_refl _) (Nat.le_refl _) (g := (mkF m 12 #[.val (.ref x), .val (.int (Int32.ofNat i))] [.int (Int32.ofNat i), .ref t])) rfl (by rw [hml]; rfl) c5 (argsL := [.ref t, .int (Int32.ofNat i)]) (rest := []) rfl rfl (by show 2 * 0 + 0 ≤ _; decide) (hb hbytes d12) (⟨rfl, hx.2.2.2.1.mv X4.warmed.alike hh4, (k2 i hi).1, s3.there X4.warmed.alike hh4, rf⟩)
    obtain ⟨rfl, q6⟩ := E6
    rw [chr8_lo8 hr.1 (k2 i hi).2] at g6
    exact ⟨T6, some (.int (f i)), _, _, _, X6, rfl, rfl, rfl, (fun h => by cases h), ⟨rfl, q6.trans hh4⟩, fun fs hl => Steps.trans g6 (X6.ireturnOut hexec hret (narrow_ch hr.1 hr.2) (Or.inr (Or.inr (Or.inr (Or.inl rfl)))) (hb hbytes d15) hl)⟩
  · exact absurd k0 (by decide)
theorem pays {l : Launch} {R : Room} {p : Program} {e : Env} {below : List Frame} {s : State} {sargs : Array Value} {len W : Nat} (x t : Addr) (V : Cell) (n : Nat) (f : Nat → Int32) (z : Int32) (fm : Value) (i : Nat) (htab : tab.before sargs s = true) (hfr : 4 ≤ R.frames) (hlo : W + 53 ≤ R.locals) :
    Back l R p e below s sargs yN len W (fun A₁ a₁ => A₁.cells + 0 ≤ R.cells ∧ A₁.slots + 0 ≤ R.slots ∧ P x t V n f z fm i a₁ A₁.U) (fun A₁ _ v₁ B₁ => E f i v₁ A₁.U B₁.U ∧ B₁.locs = A₁.locs ++ [] ∧ B₁.cells = A₁.cells + 0 ∧ B₁.slots = A₁.slots + 0) :=
  (law l x t V n f z fm i).pays htab hfr (by omega)
end ChN
end StrChars
namespace StrChars.Road
open Jvm Sem ClassFile Op Lib Jvm.Stand Jvm.Free Jvm.Free.XT
open Jvm.Lib.Cold (StaticIs)
/-- the words of String.charAt(int), the Latin-1 road alone -/
abbrev wordsChN : List Jvm.Cond := [.code ChN.yN ChN.yB 2 (some .char), .initialized ST, .fieldLink ST 9 ST "value" "[B", .fieldLink ST 38 ST "COMPACT_STRINGS" "Z", .fieldLink ST 15 ST "coder" "B", .code IsL.yN IsL.yB 1 (some .boolean), .methodLink ST 492 IsL.yN, .declares IsL.yN, .selects ST IsL.yN IsL.yN, .instanceMethod IsL.yN,
  .methodLink ST 495 LChA.yN, .static LChA.yN, .code LChA.yN LChA.yB 2 (some .char), .initialized "java/lang/StringLatin1", .methodLink "java/lang/StringLatin1" 9 JO.Str_checkIndex.yN, .static JO.Str_checkIndex.yN, .code JO.Str_checkIndex.yN JO.Str_checkIndex.yB 2 none,
  .fieldLink ST 1053 "jdk/internal/util/Preconditions" "SIOOBE_FORMATTER" "Ljava/util/function/BiFunction;", .methodLink ST 1059 JC.PreCheck.yN, .static JC.PreCheck.yN, .code JC.PreCheck.yN JC.PreCheck.yB 3 (some .int), .initialized "jdk/internal/util/Preconditions"]
theorem tabChN_of {a : Array Value} {s : State} (h : ∀ w ∈ wordsChN, w.before a s = true) : ChN.tab.before a s = true := by
  have hp : JC.PreCheck.tab.before a s = true := unparts (wk h (.code JC.PreCheck.yN JC.PreCheck.yB 3 (some .int))) (wks h (.initialized JC.PreCheck.yN.cls :: JC.PreCheck.site))
  have qk := consq hp h
  have hk : JO.Str_checkIndex.tab.before a s = true := unparts (wk qk (.code JO.Str_checkIndex.yN JO.Str_checkIndex.yB 2 none)) (wks qk (.initialized JO.Str_checkIndex.yN.cls :: JO.Str_checkIndex.site))
  have ql := consq hk h
  have hl : LChA.tab.before a s = true := unparts (wk ql (.code LChA.yN LChA.yB 2 (some .char))) (wks ql (.initialized LChA.yN.cls :: LChA.site))
  have hi : IsL.tab.before a s = true := unparts (wk h (.code IsL.yN IsL.yB 1 (some .boolean))) (wks h (.initialized IsL.yN.cls :: IsL.site))
  have q := consq hi (consq hl h)
  exact unparts (wk q (.code ChN.yN ChN.yB 2 (some .char))) (wks q (.initialized ChN.yN.cls :: ChN.site))
theorem movedChN {Z s : State} {a0 args : Array Value} (hZ : Z.Warmed39 s.vm) (hw : ∀ d ∈ wordsChN, d.before a0 Z = true) : ∀ d ∈ wordsChN, d.before args s = true := fun d hd => by
  have t : ∀ d ∈ wordsChN, (d.onTables && d.keepsFace) = true := by decide +kernel
  exact RoadKit.mv hZ (hw d hd) (t d hd)
/-- **charAt(i) OF A LATIN-1 STRING**, i < n: the char -/
theorem chN {p : Program} {l : Launch} {e : Env} {R : Room} {s : State} {args : Array Value} {below : List Frame} {len W : Nat} {Z : State} {a0 : Array Value} {h : Heap} (hZ : Z.Warmed39 s.vm) (hw : ∀ d ∈ wordsChN, d.before a0 Z = true) {kI : Nat} (wi : (Jvm.Cond.instantiable ST kI).before a0 Z = true)
    {x t : Addr} {kb : ClassId} {cs : List Int32} {N2 z : Int32} {vs : List Value} {fm : Value} {i : Nat} {j : Int32} (E : RoadKit.Exa Z h x ST) (V : RoadKit.Fld Z h x ST "value" "[B" (.ref t)) (C : RoadKit.Fld Z h x ST "coder" "B" (.int 0)) (K : RoadKit.Arv Z h t kb .byte N2 vs (.int 0)) (hc : CodA cs 0 N2 vs) (hb : ∀ c ∈ cs, ¬ c < 0 ∧ ¬ (65535 : Int32) < c)
    (S : RoadKit.Sta Z h ST "COMPACT_STRINGS" "Z" (.int z)) (hz : ¬ z = 0) (F : RoadKit.Sta Z h "jdk/internal/util/Preconditions" "SIOOBE_FORMATTER" "Ljava/util/function/BiFunction;" fm) (rf : fm.isRef = true) (l2 : cs.length ≤ 4000) (hi : i < cs.length) (hj : j = Int32.ofNat i) (hfr : 4 ≤ R.frames) (hlo : W + 53 ≤ R.locals) :
    Back l R p e below s args (⟨"java/lang/String", "charAt", "(I)C"⟩ : MethodName) len W (fun P a => a = #[.ref x, .int j] ∧ P.U.heap = h ∧ P.cells + 0 ≤ R.cells ∧ P.slots + 0 ≤ R.slots)
      (fun P _ v B => ∃ L, (v = some (.int (cs.getD i 0)) ∧ L = [] ∧ B.U.heap = h) ∧ B.locs = P.locs ++ L ∧ B.cells = P.cells + 0 ∧ B.slots = P.slots + 0) := by
  subst hj
  intro m meth c P g ig mk a X hg hsize hdg hW hn hp'
  obtain ⟨rfl, rfl, r1, r2⟩ := hp'
  have al : Z.vm.Alike P.U.vm := hZ.alike.trans X.warmed.alike
  obtain ⟨A, hx⟩ := txt_of wi al E V C K hc hb l2
  obtain ⟨v, B, X', ⟨⟨hv, hh⟩, hl, hk, hs⟩, st⟩ := ChN.pays x t A cs.length (fun j => cs.getD j 0) z fm i (tabChN_of (movedChN hZ hw)) hfr hlo m meth c P g ig mk _ X hg hsize hdg hW hn ⟨r1, r2, rfl, hx, hi, sta_is al S, hz, sta_is al F, rf⟩
  exact ⟨v, B, X', ⟨[], ⟨hv, rfl, hh⟩, hl, hk, hs⟩, st⟩
/-- what backV says of its String, as the contracts of this text ask it: cs's low bytes, coder 0 -/
theorem codOf {cs : List Int32} {n : Nat} (hn : cs.length = n) (hb : ∀ c ∈ cs, ¬ 255 < c) : CodA cs 0 (Int32.ofNat n) ((cs.map lo8).map Value.int) := Or.inl ⟨rfl, by rw [hn], by simp [List.map_map, Function.comp_def], hb⟩
end StrChars.Road
end Jvm.Pilot.@@N@@
namespace Jvm.Pilot.@@N@@
open Jvm Jvm.ClassFile Sem Op Lib Jvm.Free Jvm.Stand Jvm.LawKit Jvm.RoadKit Bundle Jvm.Pilot.@@N@@.Jvm.D
-- own prelude: a walk as a chain of goals Go (from here the method comes to its end, and Fin holds there)
def PT (W : Bool) (EL : List (String × Nat)) (Z : State) (a0 : Array Value) (own : String) (p : Program) (l : Launch) (e : Env) (R : Room) (s : State) (m : MethodId) (args : Array Value) (below : List Frame) (meth : Method) (c : Code) (T : State) (h : Heap) (cells slots : Nat) : Prop :=
  ∃ (vm0 : Vm) (k0 : Nat) (locs : List Loc), (W = false → vm0 = s.vm) ∧ Stand p l e R (s.setVm vm0) m args below meth c T locs cells slots ∧ T.heap = h ∧ p.tables.exec = Jvm.exec ∧ Z.Warmed39 vm0 ∧ vm0.findClass own = some m.cls ∧ s.Since vm0 k0 ∧ k0 ≤ h.size ∧ EW Z a0 EL ∧ CHr Z EL s.vm s.heap vm0 h ∧ Fr Z.heap.size locs ∧ Old Z Z.heap.size h
def Go (W : Bool) (EL : List (String × Nat)) (Z : State) (a0 : Array Value) (own : String) (p : Program) (l : Launch) (e : Env) (R : Room) (s : State) (m : MethodId) (args : Array Value) (below : List Frame) (meth : Method) (c : Code) (F : Outcome → State → Prop) (h : Heap) (cells slots : Nat) (g : JFrame) : Prop :=
  ∀ T, PT W EL Z a0 own p l e R s m args below meth c T h cells slots → ∃ t o, Steps p.tables e below (T.setTop g) t ∧ t.status = .running ∧ Ended t below o ∧ F o t
def Fend (W : Bool) (EL : List (String × Nat)) (Z : State) (s : State) (h0 : Heap) (ws : List Addr) (Q : Option Value → Heap → Prop) (dc ds : Nat) (o : Outcome) (t : State) : Prop :=
  ∃ v L, o = .returned v ∧ (Q v t.heap ∧ Fr Z.heap.size L ∧ Keep h0 t.heap ws) ∧ (W = true → CHr Z EL s.vm s.heap t.vm t.heap ∧ ReturnedEndW s o t L dc ds) ∧ (W = false → FrameEnd s o t L dc ds)
def Con (W : Bool) (EL : List (String × Nat)) (l : Launch) (Z : State) (y : MethodName) (bytes : ByteArray) (maxL : Nat) (ret : Option FieldType) (wl : List Jvm.Cond) (rm : Room) (as' : Array Value) (h : Heap) (ws : List Addr) (Q : Option Value → Heap → Prop) : Prop :=
  MetFree l y (head1 (Jvm.Cond.code y bytes maxL ret :: wl) rm) (fun a U => a = as' ∧ Z.Warmed39 U.vm ∧ U.heap = h ∧ (W = true → CHv Z EL U.vm h)) (fun _ _ _ _ _ => True) (fun _ U o U' => Fend W EL Z U h ws Q rm.cells rm.slots o U')
def rvl (Q : Value → Heap → Prop) (v : Option Value) (h : Heap) : Prop := ∃ x, v = some x ∧ Q x h
def rno (Q : Heap → Prop) (v : Option Value) (h : Heap) : Prop := v = none ∧ Q h
def Pay (l : Launch) (R : Room) (p : Program) (e : Env) (below : List Frame) (Z : State) (y : MethodName) (Wd : Nat) (as' : Array Value) (h : Heap) (dc ds : Nat) (ws : List Addr) (Q : Option Value → Heap → Prop) : Prop :=
  ∀ (s : State) (args : Array Value), Z.Warmed39 s.vm → Back l R p e below s args y 3 Wd (fun A a => a = as' ∧ A.U.heap = h ∧ A.cells + dc ≤ R.cells ∧ A.slots + ds ≤ R.slots) (fun A _ v B => ∃ L, (Q v B.U.heap ∧ Fr Z.heap.size L ∧ Keep h B.U.heap ws) ∧ B.locs = A.locs ++ L ∧ B.cells = A.cells + dc ∧ B.slots = A.slots + ds)
def PayW (EL : List (String × Nat)) (l : Launch) (R : Room) (p : Program) (e : Env) (below : List Frame) (Z : State) (y : MethodName) (Wd : Nat) (as' : Array Value) (h : Heap) (dc ds : Nat) (ws : List Addr) (Q : Option Value → Heap → Prop) : Prop :=
  ∀ (s : State) (vm0 : Vm) (args : Array Value), Z.Warmed39 vm0 → CHv Z EL vm0 h → BackS l R p e below (s.setVm vm0) args y 3 Wd (fun A a => a = as' ∧ A.U.heap = h ∧ A.cells + dc ≤ R.cells ∧ A.slots + ds ≤ R.slots) (fun A _ v B => ∃ L, (Q v B.U.heap ∧ Fr Z.heap.size L ∧ Keep h B.U.heap ws) ∧ B.locs = A.locs ++ L ∧ B.cells = A.cells + dc ∧ B.slots = A.slots + ds ∧ CHr Z EL vm0 h B.U.vm B.U.heap)
abbrev rm4 (a b c d : Nat) : Room := { frames := a, cells := b, slots := c, locals := d }
theorem nb {a b : Nat} (q : Nat.ble a b = true) : a ≤ b := Nat.le_of_ble_eq_true q
theorem sz {ls : Array Slot} {c : Code} {n : Nat} (h : c.maxLocals = n) (q : ls.size = n := by rfl) : ls.size = c.maxLocals := q.trans h.symm
abbrev vi (x : Int32) : Slot := .val (.int x)
abbrev vr (x : Addr) : Slot := .val (.ref x)
abbrev un : Slot := .unset
section Own
variable {W : Bool} {EL : List (String × Nat)} {Z : State} {a0 : Array Value} {own : String} {p : Program} {l : Launch} {e : Env} {R : Room} {s : State} {m : MethodId} {args : Array Value} {below : List Frame} {meth : Method} {c : Code} {F : Outcome → State → Prop} {h : Heap} {cells slots cells' slots' : Nat} {pc pc' : Nat} {ls ls' : Array Slot} {st : List Value}
variable (pc')
theorem safe_nil {vm : Vm} {x : Addr} : Safe Z [] vm h x := fun ⟨_, hp, _⟩ => nomatch hp
theorem chv_nil {vm : Vm} : CHv Z [] vm h := fun _ hp => nomatch hp
theorem con_of {y : MethodName} {bytes : ByteArray} {maxL : Nat} {ret : Option FieldType} {wl : List Jvm.Cond} {rm : Room} {as' : Array Value} {ws : List Addr} {Q : Option Value → Heap → Prop} (hname : plainFor y = true) (hWE : W = false → EL = []) (hEL : EW Z a0 EL) (hO : Old Z Z.heap.size h) (hef : ∀ m, entryFrame m as' maxL = mkF m 0 ls [])
    (body : ∀ (p : Program) (e : Env) (s : State) (m : MethodId) (below : List Frame) (meth : Method) (c : Code), (∀ {pc : Nat} {r : Except DecodeError (Instr × Nat)}, decode bytes pc = r → decode c.code pc = r) → c.maxLocals = maxL → meth.sig.returnType = ret → meth.locks = false → meth.name = y.name → Go W EL Z a0 y.cls p l e rm s m as' below meth c (Fend W EL Z s h ws Q rm.cells rm.slots) h 0 0 (mkF m 0 ls [])) :
    Con W EL l Z y bytes maxL ret wl rm as' h ws Q := by
  refine MetFree.of_bodySF hname hisR ?_
  intro p e s m args below meth c s₁ Bd hml hP _
  obtain ⟨rfl, hZ, hh, hC⟩ := hP
  have X0 : Stand p l e rm s m args below meth c s₁ [] 0 0 := Stand.of_body Bd
  have e0 : s₁.heap = h := by rw [← hh, Bd.state]; rfl
  have hown : s.vm.findClass y.cls = some m.cls := findClass_of_methodNamed Bd.named
  have hnm := (name_of_methodNamed Bd.named Bd.method).1
  have hcv : CHv Z EL s.vm h := by
    cases W
    · rw [hWE rfl]; exact chv_nil
    · exact hC rfl
  have hcr : CHr Z EL s.vm s.heap s.vm h := by rw [hh]; exact CHr.refl hcv
  obtain ⟨t, o, h1, h2⟩ := body p e s m below meth c (fun d => hb Bd.bytes d) hml Bd.returns Bd.notSynchronized hnm s₁ ⟨s.vm, h.size, [], fun _ => rfl, X0, e0, Bd.exec, hZ, hown, (State.WarmedH.refl s).since _, Nat.le_refl _, hEL, hcr, Fr.nil _, hO⟩
  exact ⟨t, o, castTop (hef m) h1, h2⟩
theorem sf00 {EL : List (String × Nat)} : ∀ vm, Z.vm.Alike vm → ∀ x ∈ ([] : List Addr), Safe Z EL vm h x := fun _ _ => sf0
theorem pay_of {y : MethodName} {bytes : ByteArray} {maxL : Nat} {ret : Option FieldType} {rm : Room} {as' : Array Value} {ws : List Addr} {Q : Option Value → Heap → Prop} {Wd : Nat} (hM : Con false [] l Z y bytes maxL ret [] rm as' h ws Q) (wc : (Jvm.Cond.code y bytes maxL ret).before a0 Z = true) (wz : (Jvm.Cond.initialized y.cls).before a0 Z = true) (hf : rm.frames + 1 ≤ R.frames := by decide) (hl : Wd + (maxL + 11) + rm.locals ≤ R.locals := by decide) :
    Pay l R p e below Z y Wd as' h rm.cells rm.slots ws Q := by
  intro s args hZ
  refine backOf (Q := fun v h' L => Q v h' ∧ Fr Z.heap.size L ∧ Keep h h' ws) ?_ hZ wc wz hf hl
  intro p e h1 h2 h3 s m args below h4 h5 h6 h7
  obtain ⟨n, o, q1, q2, q3, v, L, rfl, hq, -, hF⟩ := hM p e h1 h2 h3 s m args below h4 h5 ⟨h6.1, h6.2.1, h6.2.2, fun q => nomatch q⟩ h7
  exact ⟨n, _, q1, q2, q3, v, L, rfl, hq, hF rfl⟩
theorem payW_of {y : MethodName} {bytes : ByteArray} {maxL : Nat} {ret : Option FieldType} {rm : Room} {as' : Array Value} {ws : List Addr} {Q : Option Value → Heap → Prop} {Wd : Nat} (hM : Con true EL l Z y bytes maxL ret [] rm as' h ws Q) (wc : (Jvm.Cond.code y bytes maxL ret).before a0 Z = true) (wz : (Jvm.Cond.initialized y.cls).before a0 Z = true) (hEL : EW Z a0 EL) (hf : rm.frames + 1 ≤ R.frames := by decide) (hl : Wd + (maxL + 11) + rm.locals ≤ R.locals := by decide) :
    PayW EL l R p e below Z y Wd as' h rm.cells rm.slots ws Q := by
  intro s vm0 args hZ H
  refine backOfSH (Q := fun v h' L => Q v h' ∧ Fr Z.heap.size L ∧ Keep h h' ws) ?_ hZ wc wz hf hl hEL H
  intro p e h1 h2 h3 s m args below h4 h5 h6 h7
  obtain ⟨n, o, q1, q2, q3, v, L, rfl, hq, hC, -⟩ := hM p e h1 h2 h3 s m args below h4 h5 ⟨h6.1, h6.2.1, h6.2.2.1, fun _ => h6.2.2.2⟩ h7
  exact ⟨n, _, q1, q2, q3, v, L, rfl, hq, (hC rfl).1, (hC rfl).2⟩
theorem go_old {g0 : JFrame} (k : Old Z Z.heap.size h → Go W EL Z a0 own p l e R s m args below meth c F h cells slots (g0)) : Go W EL Z a0 own p l e R s m args below meth c F h cells slots (g0) := by
  intro T P
  exact k P.choose_spec.choose_spec.choose_spec.2.2.2.2.2.2.2.2.2.2.2 T P
theorem go_pure {g g' : JFrame} (stp : ∀ T : State, At T m c below → p.tables.exec = Jvm.exec → ∀ target, Steps p.tables e below (T.setTop g') target → Steps p.tables e below (T.setTop g) target) (k : Go W EL Z a0 own p l e R s m args below meth c F h cells slots (g')) : Go W EL Z a0 own p l e R s m args below meth c F h cells slots (g) := by
  intro T P
  obtain ⟨t, o, h1, h2⟩ := k T P
  obtain ⟨vm0, k0, locs, -, X, -, hx, -⟩ := P
  exact ⟨t, o, stp T X.here hx _ h1, h2⟩
theorem go_iconst {i : Int} {v : Int32} (hd : decode c.code pc = .ok (.iconst i, 1)) (hp : pc + 1 = pc') (hv : Int32.ofInt i = v) (k : Go W EL Z a0 own p l e R s m args below meth c F h cells slots (mkF m pc' ls (.int v :: st))) : Go W EL Z a0 own p l e R s m args below meth c F h cells slots (mkF m pc ls st) := by
  subst hp hv
  exact go_pure (fun T ha hx target hr => XS.iconst ha hx rfl hd hr) k
theorem go_bipush {i : Int} {v : Int32} (hd : decode c.code pc = .ok (.bipush i, 2)) (hp : pc + 2 = pc') (hv : (Int8.ofInt i).toInt32 = v) (k : Go W EL Z a0 own p l e R s m args below meth c F h cells slots (mkF m pc' ls (.int v :: st))) : Go W EL Z a0 own p l e R s m args below meth c F h cells slots (mkF m pc ls st) := by
  subst hp hv
  exact go_pure (fun T ha hx target hr => XS.bipush ha hx rfl hd hr) k
theorem go_sipush {i : Int} {v : Int32} (hd : decode c.code pc = .ok (.sipush i, 3)) (hp : pc + 3 = pc') (hv : (Int16.ofInt i).toInt32 = v) (k : Go W EL Z a0 own p l e R s m args below meth c F h cells slots (mkF m pc' ls (.int v :: st))) : Go W EL Z a0 own p l e R s m args below meth c F h cells slots (mkF m pc ls st) := by
  subst hp hv
  exact go_pure (fun T ha hx target hr => XS.sipush ha hx rfl hd hr) k
theorem go_aconst_null  (hd : decode c.code pc = .ok (.aconst_null, 1)) (hp : pc + 1 = pc')  (k : Go W EL Z a0 own p l e R s m args below meth c F h cells slots (mkF m pc' ls (.null :: st))) : Go W EL Z a0 own p l e R s m args below meth c F h cells slots (mkF m pc ls (st)) := by
  subst hp
  exact go_pure (fun T ha hx target hr => XS.aconstNull ha hx rfl hd hr) k
theorem go_aload_n {i : Fin 4} {v : Value} (hd : decode c.code pc = .ok (.aload_n i, 1)) (hp : pc + 1 = pc') (hl : ls[i.val]? = some (.val v)) (hv : v.isRef = true) (k : Go W EL Z a0 own p l e R s m args below meth c F h cells slots (mkF m pc' ls (v :: st))) : Go W EL Z a0 own p l e R s m args below meth c F h cells slots (mkF m pc ls (st)) := by
  subst hp
  exact go_pure (fun T ha hx target hr => XS.aloadN ha hx rfl hd hl hv hr) k
theorem go_aload {i : Nat} {v : Value} (hd : decode c.code pc = .ok (.aload i, 2)) (hp : pc + 2 = pc') (hl : ls[i]? = some (.val v)) (hv : v.isRef = true) (k : Go W EL Z a0 own p l e R s m args below meth c F h cells slots (mkF m pc' ls (v :: st))) : Go W EL Z a0 own p l e R s m args below meth c F h cells slots (mkF m pc ls (st)) := by
  subst hp
  exact go_pure (fun T ha hx target hr => XS.aload ha hx rfl hd hl hv hr) k
theorem go_iload_n {i : Fin 4} {v : Int32} (hd : decode c.code pc = .ok (.iload_n i, 1)) (hp : pc + 1 = pc') (hl : ls[i.val]? = some (.val (.int v))) (k : Go W EL Z a0 own p l e R s m args below meth c F h cells slots (mkF m pc' ls (.int v :: st))) : Go W EL Z a0 own p l e R s m args below meth c F h cells slots (mkF m pc ls (st)) := by
  subst hp
  exact go_pure (fun T ha hx target hr => XS.iloadN ha hx rfl hd hl hr) k
theorem go_iload {i : Nat} {v : Int32} (hd : decode c.code pc = .ok (.iload i, 2)) (hp : pc + 2 = pc') (hl : ls[i]? = some (.val (.int v))) (k : Go W EL Z a0 own p l e R s m args below meth c F h cells slots (mkF m pc' ls (.int v :: st))) : Go W EL Z a0 own p l e R s m args below meth c F h cells slots (mkF m pc ls (st)) := by
  subst hp
  exact go_pure (fun T ha hx target hr => XS.iload ha hx rfl hd hl hr) k
theorem go_lload_n {i : Fin 4} {v : Int64} (hd : decode c.code pc = .ok (.lload_n i, 1)) (hp : pc + 1 = pc') (hl : ls[i.val]? = some (.val (.long v))) (k : Go W EL Z a0 own p l e R s m args below meth c F h cells slots (mkF m pc' ls (.long v :: st))) : Go W EL Z a0 own p l e R s m args below meth c F h cells slots (mkF m pc ls (st)) := by
  subst hp
  exact go_pure (fun T ha hx target hr => XT.lloadN ha hx rfl hd hl hr) k
theorem go_lload {i : Nat} {v : Int64} (hd : decode c.code pc = .ok (.lload i, 2)) (hp : pc + 2 = pc') (hl : ls[i]? = some (.val (.long v))) (k : Go W EL Z a0 own p l e R s m args below meth c F h cells slots (mkF m pc' ls (.long v :: st))) : Go W EL Z a0 own p l e R s m args below meth c F h cells slots (mkF m pc ls (st)) := by
  subst hp
  exact go_pure (fun T ha hx target hr => XT.lload ha hx rfl hd hl hr) k
theorem go_istore_n {i : Fin 4} {v : Int32} (hd : decode c.code pc = .ok (.istore_n i, 1)) (hp : pc + 1 = pc') (hl : storeLocals ls i.val (.int v) = some ls') (k : Go W EL Z a0 own p l e R s m args below meth c F h cells slots (mkF m pc' ls' (st))) : Go W EL Z a0 own p l e R s m args below meth c F h cells slots (mkF m pc ls (.int v :: st)) := by
  subst hp
  exact go_pure (fun T ha hx target hr => XS.istoreN ha hx rfl hd rfl hl hr) k
theorem go_istore {i : Nat} {v : Int32} (hd : decode c.code pc = .ok (.istore i, 2)) (hp : pc + 2 = pc') (hl : storeLocals ls i (.int v) = some ls') (k : Go W EL Z a0 own p l e R s m args below meth c F h cells slots (mkF m pc' ls' (st))) : Go W EL Z a0 own p l e R s m args below meth c F h cells slots (mkF m pc ls (.int v :: st)) := by
  subst hp
  exact go_pure (fun T ha hx target hr => XS.istore ha hx rfl hd rfl hl hr) k
theorem go_astore_n {i : Fin 4} {v : Value} (hd : decode c.code pc = .ok (.astore_n i, 1)) (hp : pc + 1 = pc') (hv : v.isRef = true) (hl : storeLocals ls i.val v = some ls') (k : Go W EL Z a0 own p l e R s m args below meth c F h cells slots (mkF m pc' ls' (st))) : Go W EL Z a0 own p l e R s m args below meth c F h cells slots (mkF m pc ls (v :: st)) := by
  subst hp
  exact go_pure (fun T ha hx target hr => XS.astoreN ha hx rfl hd rfl hv hl hr) k
theorem go_astore {i : Nat} {v : Value} (hd : decode c.code pc = .ok (.astore i, 2)) (hp : pc + 2 = pc') (hv : v.isRef = true) (hl : storeLocals ls i v = some ls') (k : Go W EL Z a0 own p l e R s m args below meth c F h cells slots (mkF m pc' ls' (st))) : Go W EL Z a0 own p l e R s m args below meth c F h cells slots (mkF m pc ls (v :: st)) := by
  subst hp
  exact go_pure (fun T ha hx target hr => XS.astore ha hx rfl hd rfl hv hl hr) k
theorem go_lstore {i : Nat} {v : Int64} (hd : decode c.code pc = .ok (.lstore i, 2)) (hp : pc + 2 = pc') (hl : storeLocals ls i (.long v) = some ls') (k : Go W EL Z a0 own p l e R s m args below meth c F h cells slots (mkF m pc' ls' (st))) : Go W EL Z a0 own p l e R s m args below meth c F h cells slots (mkF m pc ls (.long v :: st)) := by
  subst hp
  exact go_pure (fun T ha hx target hr => XT.lstore ha hx rfl hd rfl hl hr) k
theorem go_iadd {x y z : Int32} (hd : decode c.code pc = .ok (.iadd, 1)) (hp : pc + 1 = pc') (hz : x + y = z) (k : Go W EL Z a0 own p l e R s m args below meth c F h cells slots (mkF m pc' ls (.int z :: st))) : Go W EL Z a0 own p l e R s m args below meth c F h cells slots (mkF m pc ls (.int y :: .int x :: st)) := by
  subst hp hz
  exact go_pure (fun T ha hx target hr => XS.iadd ha hx rfl hd rfl hr) k
theorem go_isub {x y z : Int32} (hd : decode c.code pc = .ok (.isub, 1)) (hp : pc + 1 = pc') (hz : x - y = z) (k : Go W EL Z a0 own p l e R s m args below meth c F h cells slots (mkF m pc' ls (.int z :: st))) : Go W EL Z a0 own p l e R s m args below meth c F h cells slots (mkF m pc ls (.int y :: .int x :: st)) := by
  subst hp hz
  exact go_pure (fun T ha hx target hr => XS.isub ha hx rfl hd rfl hr) k
theorem go_imul {x y z : Int32} (hd : decode c.code pc = .ok (.imul, 1)) (hp : pc + 1 = pc') (hz : x * y = z) (k : Go W EL Z a0 own p l e R s m args below meth c F h cells slots (mkF m pc' ls (.int z :: st))) : Go W EL Z a0 own p l e R s m args below meth c F h cells slots (mkF m pc ls (.int y :: .int x :: st)) := by
  subst hp hz
  exact go_pure (fun T ha hx target hr => XS.imul ha hx rfl hd rfl hr) k
theorem go_iand {x y z : Int32} (hd : decode c.code pc = .ok (.iand, 1)) (hp : pc + 1 = pc') (hz : x &&& y = z) (k : Go W EL Z a0 own p l e R s m args below meth c F h cells slots (mkF m pc' ls (.int z :: st))) : Go W EL Z a0 own p l e R s m args below meth c F h cells slots (mkF m pc ls (.int y :: .int x :: st)) := by
  subst hp hz
  exact go_pure (fun T ha hx target hr => XS.iand ha hx rfl hd rfl hr) k
theorem go_ishl {x y z : Int32} (hd : decode c.code pc = .ok (.ishl, 1)) (hp : pc + 1 = pc') (hz : x <<< (y &&& 31) = z) (k : Go W EL Z a0 own p l e R s m args below meth c F h cells slots (mkF m pc' ls (.int z :: st))) : Go W EL Z a0 own p l e R s m args below meth c F h cells slots (mkF m pc ls (.int y :: .int x :: st)) := by
  subst hp hz
  exact go_pure (fun T ha hx target hr => XT.ishl ha hx rfl hd rfl hr) k
theorem go_ishr {x y z : Int32} (hd : decode c.code pc = .ok (.ishr, 1)) (hp : pc + 1 = pc') (hz : x >>> (y &&& 31) = z) (k : Go W EL Z a0 own p l e R s m args below meth c F h cells slots (mkF m pc' ls (.int z :: st))) : Go W EL Z a0 own p l e R s m args below meth c F h cells slots (mkF m pc ls (.int y :: .int x :: st)) := by
  subst hp hz
  exact go_pure (fun T ha hx target hr => XT.ishr ha hx rfl hd rfl hr) k
theorem go_idiv {x y z : Int32} (hd : decode c.code pc = .ok (.idiv, 1)) (hp : pc + 1 = pc') (hy : y ≠ 0) (hz : x / y = z) (k : Go W EL Z a0 own p l e R s m args below meth c F h cells slots (mkF m pc' ls (.int z :: st))) : Go W EL Z a0 own p l e R s m args below meth c F h cells slots (mkF m pc ls (.int y :: .int x :: st)) := by
  subst hp hz
  exact go_pure (fun T ha hx target hr => XS.idiv ha hx rfl hd rfl hy hr) k
theorem go_irem {x y z : Int32} (hd : decode c.code pc = .ok (.irem, 1)) (hp : pc + 1 = pc') (hy : y ≠ 0) (hz : x % y = z) (k : Go W EL Z a0 own p l e R s m args below meth c F h cells slots (mkF m pc' ls (.int z :: st))) : Go W EL Z a0 own p l e R s m args below meth c F h cells slots (mkF m pc ls (.int y :: .int x :: st)) := by
  subst hp hz
  intro T P
  obtain ⟨t, o, h1, h2⟩ := k T P
  obtain ⟨vm0, k0, locs, -, X, -, hx, -⟩ := P
  exact ⟨t, o, iremM X hx rfl hd rfl hy h1, h2⟩
theorem go_ineg {x : Int32} {z : Int32} (hd : decode c.code pc = .ok (.ineg, 1)) (hp : pc + 1 = pc') (hz : -x = z) (k : Go W EL Z a0 own p l e R s m args below meth c F h cells slots (mkF m pc' ls (.int z :: st))) : Go W EL Z a0 own p l e R s m args below meth c F h cells slots (mkF m pc ls (.int x :: st)) := by
  subst hp hz
  exact go_pure (fun T ha hx target hr => XS.ineg ha hx rfl hd rfl hr) k
theorem go_i2c {x : Int32} {z : Int32} (hd : decode c.code pc = .ok (.i2c, 1)) (hp : pc + 1 = pc') (hz : x.toUInt32.toUInt16.toUInt32.toInt32 = z) (k : Go W EL Z a0 own p l e R s m args below meth c F h cells slots (mkF m pc' ls (.int z :: st))) : Go W EL Z a0 own p l e R s m args below meth c F h cells slots (mkF m pc ls (.int x :: st)) := by
  subst hp hz
  exact go_pure (fun T ha hx target hr => XT.i2c ha hx rfl hd rfl hr) k
theorem go_i2l {x : Int32} {z : Int64} (hd : decode c.code pc = .ok (.i2l, 1)) (hp : pc + 1 = pc') (hz : x.toInt64 = z) (k : Go W EL Z a0 own p l e R s m args below meth c F h cells slots (mkF m pc' ls (.long z :: st))) : Go W EL Z a0 own p l e R s m args below meth c F h cells slots (mkF m pc ls (.int x :: st)) := by
  subst hp hz
  exact go_pure (fun T ha hx target hr => XT.i2l ha hx rfl hd rfl hr) k
theorem go_l2i {x : Int64} {z : Int32} (hd : decode c.code pc = .ok (.l2i, 1)) (hp : pc + 1 = pc') (hz : x.toInt32 = z) (k : Go W EL Z a0 own p l e R s m args below meth c F h cells slots (mkF m pc' ls (.int z :: st))) : Go W EL Z a0 own p l e R s m args below meth c F h cells slots (mkF m pc ls (.long x :: st)) := by
  subst hp hz
  exact go_pure (fun T ha hx target hr => XT.l2i ha hx rfl hd rfl hr) k
theorem go_lneg {x : Int64} {z : Int64} (hd : decode c.code pc = .ok (.lneg, 1)) (hp : pc + 1 = pc') (hz : -x = z) (k : Go W EL Z a0 own p l e R s m args below meth c F h cells slots (mkF m pc' ls (.long z :: st))) : Go W EL Z a0 own p l e R s m args below meth c F h cells slots (mkF m pc ls (.long x :: st)) := by
  subst hp hz
  exact go_pure (fun T ha hx target hr => XT.lneg ha hx rfl hd rfl hr) k
theorem go_ldiv {x y z : Int64} (hd : decode c.code pc = .ok (.ldiv, 1)) (hp : pc + 1 = pc') (hy : y ≠ 0) (hz : x / y = z) (k : Go W EL Z a0 own p l e R s m args below meth c F h cells slots (mkF m pc' ls (.long z :: st))) : Go W EL Z a0 own p l e R s m args below meth c F h cells slots (mkF m pc ls (.long y :: .long x :: st)) := by
  subst hp hz
  exact go_pure (fun T ha hx target hr => XT.ldiv ha hx rfl hd rfl hy hr) k
theorem go_lrem {x y z : Int64} (hd : decode c.code pc = .ok (.lrem, 1)) (hp : pc + 1 = pc') (hy : y ≠ 0) (hz : x - (x / y) * y = z) (k : Go W EL Z a0 own p l e R s m args below meth c F h cells slots (mkF m pc' ls (.long z :: st))) : Go W EL Z a0 own p l e R s m args below meth c F h cells slots (mkF m pc ls (.long y :: .long x :: st)) := by
  subst hp hz
  exact go_pure (fun T ha hx target hr => XT.lrem ha hx rfl hd rfl hy hr) k
theorem go_lcmp {x y : Int64} (hd : decode c.code pc = .ok (.lcmp, 1)) (hp : pc + 1 = pc') (k : Go W EL Z a0 own p l e R s m args below meth c F h cells slots (mkF m pc' ls (.int (XT.cmpL x y) :: st))) : Go W EL Z a0 own p l e R s m args below meth c F h cells slots (mkF m pc ls (.long y :: .long x :: st)) := by
  subst hp
  exact go_pure (fun T ha hx target hr => XT.lcmp ha hx rfl hd rfl hr) k
theorem go_lconst {i : Fin 2} {v : Int64} (hd : decode c.code pc = .ok (.lconst i, 1)) (hp : pc + 1 = pc') (hv : Int64.ofNat i = v) (k : Go W EL Z a0 own p l e R s m args below meth c F h cells slots (mkF m pc' ls (.long v :: st))) : Go W EL Z a0 own p l e R s m args below meth c F h cells slots (mkF m pc ls st) := by
  subst hp hv
  exact go_pure (fun T ha hx target hr => XT.lconst ha hx rfl hd hr) k
theorem go_dup {v : Value} (hd : decode c.code pc = .ok (.dup, 1)) (hp : pc + 1 = pc') (hc : v.category = 1) (k : Go W EL Z a0 own p l e R s m args below meth c F h cells slots (mkF m pc' ls (v :: v :: st))) : Go W EL Z a0 own p l e R s m args below meth c F h cells slots (mkF m pc ls (v :: st)) := by
  subst hp
  exact go_pure (fun T ha hx target hr => XS.dup ha hx rfl hd rfl hc hr) k
theorem go_pop {v : Value} (hd : decode c.code pc = .ok (.pop, 1)) (hp : pc + 1 = pc') (hc : v.category = 1) (k : Go W EL Z a0 own p l e R s m args below meth c F h cells slots (mkF m pc' ls (st))) : Go W EL Z a0 own p l e R s m args below meth c F h cells slots (mkF m pc ls (v :: st)) := by
  subst hp
  exact go_pure (fun T ha hx target hr => XT.pop ha hx rfl hd rfl hc hr) k
theorem go_iinc {i : Nat} {q : Int} {x : Int32} (hd : decode c.code pc = .ok (.iinc i q, 3)) (hp : pc + 3 = pc') (hl : ls[i]? = some (.val (.int x))) {y : Int32} (hy : x + Int32.ofInt q = y) (hl' : storeLocals ls i (.int y) = some ls') (k : Go W EL Z a0 own p l e R s m args below meth c F h cells slots (mkF m pc' ls' st)) : Go W EL Z a0 own p l e R s m args below meth c F h cells slots (mkF m pc ls st) := by
  subst hp hy
  exact go_pure (fun T ha hx target hr => XS.iinc ha hx rfl hd hl hl' hr) k
theorem go_goto {o : Int} (hd : decode c.code pc = .ok (.goto o, 3)) (ho : 0 ≤ (pc : Int) + o) (hp : ((pc : Int) + o).toNat = pc') (k : Go W EL Z a0 own p l e R s m args below meth c F h cells slots (mkF m pc' ls st)) : Go W EL Z a0 own p l e R s m args below meth c F h cells slots (mkF m pc ls st) :=
  go_pure (fun T ha hx target hr => XS.goto ha hx rfl rfl hd ho hp hr) k
theorem go_ifT {o : Int} {cd : ClassFile.Cond} {x : Int32} (hd : decode c.code pc = .ok (.ifCond cd o, 3)) (ho : 0 ≤ (pc : Int) + o) (hp : ((pc : Int) + o).toNat = pc') (hc : ifCond.holds cd x = true) (k : Go W EL Z a0 own p l e R s m args below meth c F h cells slots (mkF m pc' ls st)) : Go W EL Z a0 own p l e R s m args below meth c F h cells slots (mkF m pc ls (.int x :: st)) :=
  go_pure (fun T ha hx target hr => XS.ifYes ha hx rfl rfl hd rfl hc ho hp hr) k
theorem go_ifF {o : Int} {cd : ClassFile.Cond} {x : Int32} (hd : decode c.code pc = .ok (.ifCond cd o, 3)) (hp : pc + 3 = pc') (hc : ifCond.holds cd x = false) (k : Go W EL Z a0 own p l e R s m args below meth c F h cells slots (mkF m pc' ls st)) : Go W EL Z a0 own p l e R s m args below meth c F h cells slots (mkF m pc ls (.int x :: st)) := by
  subst hp
  exact go_pure (fun T ha hx target hr => XS.ifNo ha hx rfl hd rfl hc hr) k
theorem go_icT {o : Int} {cd : ClassFile.Cond} {x y : Int32} (hd : decode c.code pc = .ok (.if_icmp cd o, 3)) (ho : 0 ≤ (pc : Int) + o) (hp : ((pc : Int) + o).toNat = pc') (hc : if_icmp.holds cd x y = true) (k : Go W EL Z a0 own p l e R s m args below meth c F h cells slots (mkF m pc' ls st)) : Go W EL Z a0 own p l e R s m args below meth c F h cells slots (mkF m pc ls (.int y :: .int x :: st)) :=
  go_pure (fun T ha hx target hr => XS.icmpYes ha hx rfl rfl hd rfl hc ho hp hr) k
theorem go_icF {o : Int} {cd : ClassFile.Cond} {x y : Int32} (hd : decode c.code pc = .ok (.if_icmp cd o, 3)) (hp : pc + 3 = pc') (hc : if_icmp.holds cd x y = false) (k : Go W EL Z a0 own p l e R s m args below meth c F h cells slots (mkF m pc' ls st)) : Go W EL Z a0 own p l e R s m args below meth c F h cells slots (mkF m pc ls (.int y :: .int x :: st)) := by
  subst hp
  exact go_pure (fun T ha hx target hr => XS.icmpNo ha hx rfl hd rfl hc hr) k
theorem go_nullF {o : Int} {b : Addr} (hd : decode c.code pc = .ok (.ifnull o, 3)) (hp : pc + 3 = pc') (k : Go W EL Z a0 own p l e R s m args below meth c F h cells slots (mkF m pc' ls st)) : Go W EL Z a0 own p l e R s m args below meth c F h cells slots (mkF m pc ls (.ref b :: st)) := by
  subst hp
  exact go_pure (fun T ha hx target hr => XS.ifnullNo ha hx rfl hd rfl hr) k
theorem go_nnT {o : Int} {b : Addr} (hd : decode c.code pc = .ok (.ifnonnull o, 3)) (ho : 0 ≤ (pc : Int) + o) (hp : ((pc : Int) + o).toNat = pc') (k : Go W EL Z a0 own p l e R s m args below meth c F h cells slots (mkF m pc' ls st)) : Go W EL Z a0 own p l e R s m args below meth c F h cells slots (mkF m pc ls (.ref b :: st)) :=
  go_pure (fun T ha hx target hr => XT.ifnonnullYes ha hx rfl rfl hd rfl ho hp hr) k
theorem go_getF {a : Addr} {v : Value} {R0 O n d : String} {index : Nat} (w : (Jvm.Cond.fieldLink own index R0 n d).before a0 Z = true) (via : Via Z R0 O n d) (F0 : Fld Z h a O n d v) (hd : decode c.code pc = .ok (.getfield index, 3)) (hp : pc + 3 = pc') (k : Go W EL Z a0 own p l e R s m args below meth c F h cells slots (mkF m pc' ls (v :: st))) : Go W EL Z a0 own p l e R s m args below meth c F h cells slots (mkF m pc ls (.ref a :: st)) := by
  subst hp
  intro T P
  obtain ⟨vm0, k0, locs, hWf, X, eT, hx, hZ, hown, hS, hk, hEL, hC, hN, hO⟩ := P
  obtain ⟨T', X', e', st'⟩ := getF X hx hZ hown (host := "") (Or.inl w) via eT F0 (g := mkF m pc ls (.ref a :: st)) rfl rfl hd
  obtain ⟨t, o, h1, h2⟩ := k T' ⟨vm0, k0, locs, hWf, X', e', hx, hZ, hown, hS, hk, hEL, hC, hN, hO⟩
  exact ⟨t, o, st' _ h1, h2⟩
theorem go_getS {v : Value} {O n d : String} {index : Nat} (w : (Jvm.Cond.fieldLink own index O n d).before a0 Z = true) (F0 : Sta Z h O n d v) (hd : decode c.code pc = .ok (.getstatic index, 3)) (hp : pc + 3 = pc') (k : Go W EL Z a0 own p l e R s m args below meth c F h cells slots (mkF m pc' ls (v :: st))) : Go W EL Z a0 own p l e R s m args below meth c F h cells slots (mkF m pc ls st) := by
  subst hp
  intro T P
  obtain ⟨vm0, k0, locs, hWf, X, eT, hx, hZ, hown, hS, hk, hEL, hC, hN, hO⟩ := P
  obtain ⟨T', X', e', st'⟩ := getS X hx hZ hown (host := "") w Via.refl eT F0 (g := mkF m pc ls st) rfl hd
  obtain ⟨t, o, h1, h2⟩ := k T' ⟨vm0, k0, locs, hWf, X', e', hx, hZ, hown, hS, hk, hEL, hC, hN, hO⟩
  exact ⟨t, o, st' _ h1, h2⟩
theorem safe_of {vm : Vm} {a : Addr} {C : String} (hal : Z.vm.Alike vm) (E : Exa Z h a C) (hs : (C ≠ "java/lang/String" ∧ C ≠ "[B") ∨ EL = []) : Safe Z EL vm h a := by
  rcases hs with hs | rfl
  · exact Safe.exa hal E hs.1 hs.2
  · exact safe_nil
theorem go_putF {a : Addr} {v v' old : Value} {R0 O n d C : String} {index kk : Nat} {ty : FieldType} (w : (Jvm.Cond.fieldLink own index R0 n d).before a0 Z = true) (via : Via Z R0 O n d) (F0 : Fld Z h a O n d old) (E : Exa Z h a C) (L : (Jvm.Cond.lays C O n d).before a0 Z = true ∨ ((Jvm.Cond.laysFinal C O n d).before a0 Z = true ∧ own = O ∧ meth.name = "<init>")) (wi : (Jvm.Cond.instantiable C kk).before a0 Z = true)
    (hty : parseFieldDescriptor d = some ty) (hn : narrow ty v = v') (hf : fits ty v' = true) (ha : Z.heap.size ≤ a) (hs : (C ≠ "java/lang/String" ∧ C ≠ "[B") ∨ EL = []) (hd : decode c.code pc = .ok (.putfield index, 3)) (hp : pc + 3 = pc')
    (k : ∀ h', Wr h h' a (Jvm.RoadKit.slotOf Z O n d) v' → Go W EL Z a0 own p l e R s m args below meth c F h' cells slots (mkF m pc' ls st)) : Go W EL Z a0 own p l e R s m args below meth c F h cells slots (mkF m pc ls (v :: .ref a :: st)) := by
  subst hp
  intro T P
  obtain ⟨vm0, k0, locs, hWf, X, eT, hx, hZ, hown, hS, hk, hEL, hC, hN, hO⟩ := P
  obtain ⟨T', h', X', e', W', st'⟩ := putFN X hx hZ hown w via eT F0 E L wi hty hn hf (g := mkF m pc ls (v :: .ref a :: st)) rfl rfl hd
  have S0 : Safe Z EL vm0 h a := safe_of hZ.alike E hs
  obtain ⟨t, o, h1, h2⟩ := k h' W' T' ⟨vm0, k0, _, hWf, X', e', hx, hZ, hown, hS, by rw [W'.size]; exact hk, hEL, hC.trans (CHr.wr W' S0 hC.1), Fr.snoc X' hN ha, hO.wr W' ha⟩
  exact ⟨t, o, st' _ h1, h2⟩
theorem go_newO {C : String} {index n : Nat} (w : (Jvm.Cond.classLink own index C).before a0 Z = true) (wi : (Jvm.Cond.instantiable C n).before a0 Z = true) (wz : (Jvm.Cond.initialized C).before a0 Z = true) (hd : decode c.code pc = .ok (.new index, 3)) (hp : pc + 3 = pc') (hcl : cells + 1 = cells') (hsl : slots + n = slots') (hc : cells' ≤ R.cells) (hl : slots' ≤ R.slots)
    (k : ∀ (h' : Heap) (a : Addr), h.size = a → Ext h h' → Exa Z h' a C → (∀ {O nm d : String} {ty : FieldType}, Laid Z a0 C O nm d → parseFieldDescriptor d = some ty → Fld Z h' a O nm d (defaultValue ty)) → Unt h' a → Go W EL Z a0 own p l e R s m args below meth c F h' cells' slots' (mkF m pc' ls (.ref a :: st))) : Go W EL Z a0 own p l e R s m args below meth c F h cells slots (mkF m pc ls st) := by
  subst hp hcl hsl
  intro T P
  obtain ⟨vm0, k0, locs, hWf, X, eT, hx, hZ, hown, hS, hk, hEL, hC, hN, hO⟩ := P
  obtain ⟨T', h', X', e', E', A', D', U', st'⟩ := newO X hx hZ hown w wi wz eT (g := mkF m pc ls st) rfl hd hc hl
  obtain ⟨t, o, h1, h2⟩ := k h' h.size rfl E' A' D' U' T' ⟨vm0, k0, _, hWf, X', e', hx, hZ, hown, hS, Nat.le_trans hk E'.1, hEL, hC.trans (CHr.ext E' hC.1), hN, hO.ext E'⟩
  exact ⟨t, o, st' _ h1, h2⟩
theorem go_newP {aty : ArrayType} {n : Int32} {cap : Nat} {vs : List Value} {ty : FieldType} {dv : Value} (w : (Jvm.Cond.arrayClass ty).before a0 Z = true) (hty : newarray.typeOf aty = ty) (hdv : defaultValue ty = dv) (hd : decode c.code pc = .ok (.newarray aty, 2)) (hp : pc + 2 = pc') (hn : ¬ n < 0) (hcap : n.toNatClampNeg = cap) (hb : cap * 8 ≤ 536870912) (hvs : List.replicate cap dv = vs) (hcl : cells + 1 = cells') (hsl : slots + cap = slots') (hc : cells' ≤ R.cells) (hl : slots' ≤ R.slots)
    (k : ∀ (h' : Heap) (a : Addr) (kA : ClassId), h.size = a → Ext h h' → Arv Z h' a kA ty n vs dv → Go W EL Z a0 own p l e R s m args below meth c F h' cells' slots' (mkF m pc' ls (.ref a :: st))) : Go W EL Z a0 own p l e R s m args below meth c F h cells slots (mkF m pc ls (.int n :: st)) := by
  subst hp hcl hsl hty hdv hvs
  intro T P
  obtain ⟨vm0, k0, locs, hWf, X, eT, hx, hZ, hown, hS, hk, hEL, hC, hN, hO⟩ := P
  obtain ⟨T', h', kA, X', e', E', A', st'⟩ := newP X hx hZ w eT (g := mkF m pc ls (.int n :: st)) rfl hd rfl hn (cap := cap) (Nat.le_of_eq hcap) hb hc hl
  have V : Arv Z h' h.size kA (newarray.typeOf aty) n (List.replicate cap (defaultValue (newarray.typeOf aty))) (defaultValue (newarray.typeOf aty)) := by
    have q := (Arv.new A' hn).pad (pad_rep [] (defaultValue (newarray.typeOf aty)) cap)
    simpa using q
  obtain ⟨t, o, h1, h2⟩ := k h' h.size kA rfl E' V T' ⟨vm0, k0, _, hWf, X', e', hx, hZ, hown, hS, Nat.le_trans hk E'.1, hEL, hC.trans (CHr.ext E' hC.1), hN, hO.ext E'⟩
  exact ⟨t, o, st' _ h1, h2⟩
theorem go_stC {a : Addr} {kA : ClassId} {z j x x' : Int32} {vs vs' : List Value} {dv : Value} {i : Nat} (A : Arv Z h a kA .char z vs dv) (ha : Z.heap.size ≤ a) (hj0 : ¬ j < 0) (hjz : j < z) (hji : j.toNatClampNeg = i) (hi : i < vs.length) (hx' : x.toUInt32.toUInt16.toUInt32.toInt32 = x') (hvs : vs.set i (.int x') = vs') (hd : decode c.code pc = .ok (.castore, 1)) (hp : pc + 1 = pc')
    (k : ∀ h', Wr h h' a i (.int x') → Arv Z h' a kA .char z vs' dv → Go W EL Z a0 own p l e R s m args below meth c F h' cells slots (mkF m pc' ls st)) : Go W EL Z a0 own p l e R s m args below meth c F h cells slots (mkF m pc ls (.int x :: .int j :: .ref a :: st)) := by
  subst hp hx' hvs hji
  intro T P
  obtain ⟨vm0, k0, locs, hWf, X, eT, hx, hZ, hown, hS, hk, hEL, hC, hN, hO⟩ := P
  obtain ⟨cl, Ar, q1, S1, N1, H1, G1⟩ := A
  obtain ⟨T', h', X', e', W', st'⟩ := stC X hx hZ eT Ar (j := j) (inb_of S1 ⟨hj0, hjz⟩) (g := mkF m pc ls (.int x :: .int j :: .ref a :: st)) rfl rfl hd
  have S0 : Safe Z EL vm0 h a := Safe.arr hZ.alike Ar (by decide)
  obtain ⟨t, o, h1, h2⟩ := k h' W' (Arv.set Ar q1 S1 N1 H1 G1 (fits_nar_char _) W' _ rfl hi) T' ⟨vm0, k0, _, hWf, X', e', hx, hZ, hown, hS, by rw [W'.size]; exact hk, hEL, hC.trans (CHr.wr W' S0 hC.1), Fr.snoc X' hN ha, hO.wr W' ha⟩
  exact ⟨t, o, st' _ h1, h2⟩
theorem go_stB {a : Addr} {kA : ClassId} {z j x x' : Int32} {vs vs' : List Value} {dv : Value} {i : Nat} (hE : EL = []) (A : Arv Z h a kA .byte z vs dv) (ha : Z.heap.size ≤ a) (hj0 : ¬ j < 0) (hjz : j < z) (hji : j.toNatClampNeg = i) (hi : i < vs.length) (hx' : x.toInt8.toInt32 = x') (hvs : vs.set i (.int x') = vs') (hd : decode c.code pc = .ok (.bastore, 1)) (hp : pc + 1 = pc')
    (k : ∀ h', Wr h h' a i (.int x') → Arv Z h' a kA .byte z vs' dv → Go W EL Z a0 own p l e R s m args below meth c F h' cells slots (mkF m pc' ls st)) : Go W EL Z a0 own p l e R s m args below meth c F h cells slots (mkF m pc ls (.int x :: .int j :: .ref a :: st)) := by
  subst hp hx' hvs hji hE
  intro T P
  obtain ⟨vm0, k0, locs, hWf, X, eT, hx, hZ, hown, hS, hk, hEL, hC, hN, hO⟩ := P
  obtain ⟨cl, Ar, q1, S1, N1, H1, G1⟩ := A
  obtain ⟨T', h', X', e', W', st'⟩ := stB X hx hZ eT Ar (j := j) (inb_of S1 ⟨hj0, hjz⟩) (g := mkF m pc ls (.int x :: .int j :: .ref a :: st)) rfl rfl hd
  obtain ⟨t, o, h1, h2⟩ := k h' W' (Arv.set Ar q1 S1 N1 H1 G1 (fits_nar_byte _) W' _ rfl hi) T' ⟨vm0, k0, _, hWf, X', e', hx, hZ, hown, hS, by rw [W'.size]; exact hk, hEL, hC.trans (CHr.wr W' safe_nil hC.1), Fr.snoc X' hN ha, hO.wr W' ha⟩
  exact ⟨t, o, st' _ h1, h2⟩
theorem go_baload {a : Addr} {kA : ClassId} {z j : Int32} {vs : List Value} {dv v : Value} {i : Nat} (A : Arv Z h a kA .byte z vs dv) (hj0 : ¬ j < 0) (hjz : j < z) (hji : j.toNatClampNeg = i) (hv : vs.getD i dv = v) (hd : decode c.code pc = .ok (.baload, 1)) (hp : pc + 1 = pc')
    (k : Go W EL Z a0 own p l e R s m args below meth c F h cells slots (mkF m pc' ls (v :: st))) : Go W EL Z a0 own p l e R s m args below meth c F h cells slots (mkF m pc ls (.int j :: .ref a :: st)) := by
  subst hp hv hji
  intro T P
  obtain ⟨t, o, h1, h2⟩ := k T P
  obtain ⟨vm0, k0, locs, hWf, X, eT, hx, hZ, hown, hS, hk, hEL, hC, hN, hO⟩ := P
  obtain ⟨cl, Ar, q1, S1, N1, H1, G1⟩ := A
  have hin := inb_of S1 ⟨hj0, hjz⟩
  exact ⟨t, o, X.baloadBytes hx (by rw [eT]; exact Ar.1) (State.isArrayOf_alike hZ.alike Ar.2.1) Ar.2.2 hin (H1.at hin rfl) (g := mkF m pc ls (.int j :: .ref a :: st)) rfl rfl hd _ h1, h2⟩
theorem go_arraylength {a : Addr} {kA : ClassId} {z : Int32} {vs : List Value} {dv : Value} {ty : FieldType} (A : Arv Z h a kA ty z vs dv) (hd : decode c.code pc = .ok (.arraylength, 1)) (hp : pc + 1 = pc')
    (k : Go W EL Z a0 own p l e R s m args below meth c F h cells slots (mkF m pc' ls (.int z :: st))) : Go W EL Z a0 own p l e R s m args below meth c F h cells slots (mkF m pc ls (.ref a :: st)) := by
  subst hp
  intro T P
  obtain ⟨t, o, h1, h2⟩ := k T P
  obtain ⟨vm0, k0, locs, hWf, X, eT, hx, hZ, hown, hS, hk, hEL, hC, hN, hO⟩ := P
  obtain ⟨cl, Ar, q1, S1, N1, H1, G1⟩ := A
  refine ⟨t, o, X.arraylength hx (by rw [eT]; exact Ar.1) (State.isArrayOf_alike hZ.alike Ar.2.1) (g := mkF m pc ls (.ref a :: st)) rfl rfl hd _ ?_, h2⟩
  rw [len_of S1 N1]
  exact h1
theorem go_ldcI {v : Int32} {index : Nat} (w : (Jvm.Cond.constant own index v).before a0 Z = true) (hd : decode c.code pc = .ok (.ldc index, 2)) (hp : pc + 2 = pc') (k : Go W EL Z a0 own p l e R s m args below meth c F h cells slots (mkF m pc' ls (.int v :: st))) : Go W EL Z a0 own p l e R s m args below meth c F h cells slots (mkF m pc ls st) := by
  subst hp
  intro T P
  obtain ⟨t, o, h1, h2⟩ := k T P
  obtain ⟨vm0, k0, locs, hWf, X, eT, hx, hZ, hown, hS, hk, hEL, hC, hN, hO⟩ := P
  exact ⟨t, o, X.ldcInt hx hown (mvT hZ w) (g := mkF m pc ls st) rfl hd _ h1, h2⟩
theorem go_ldcJ {v : Int64} {index : Nat} (w : (Jvm.Cond.constantLong own index v).before a0 Z = true) (hd : decode c.code pc = .ok (.ldc2_w index, 3)) (hp : pc + 3 = pc') (k : Go W EL Z a0 own p l e R s m args below meth c F h cells slots (mkF m pc' ls (.long v :: st))) : Go W EL Z a0 own p l e R s m args below meth c F h cells slots (mkF m pc ls st) := by
  subst hp
  intro T P
  obtain ⟨t, o, h1, h2⟩ := k T P
  obtain ⟨vm0, k0, locs, hWf, X, eT, hx, hZ, hown, hS, hk, hEL, hC, hN, hO⟩ := P
  exact ⟨t, o, X.ldc2Long hx hown (mvT hZ w) (g := mkF m pc ls st) rfl hd _ h1, h2⟩
theorem go_ldcH {text : String} {index n : Nat} {vs : List Value} {z : Int32} (hWt : W = true) (hmem : (own, index) ∈ EL) (w : (Jvm.Cond.stringLink own index text).before a0 Z = true) (wS : ∀ a ∈ Bundle.stringAtoms, a.before a0 Z = true) (ht : (∀ c ∈ text.toList, c.toNat < 256) ∧ text.toList.map (fun c => Value.int (Jvm.Lit.byteI c.toNat.toUInt16)) = vs) (hz : ¬ z < 0) (hlz : z.toNatClampNeg = vs.length) (hn : 4 * text.toList.length ≤ n) (hbig : n ≤ 536870912) (hd : decode c.code pc = .ok (.ldc index, 2)) (hp : pc + 2 = pc') (hcl : cells + 2 = cells') (hsl : slots + (n + 4) = slots') (hc : cells' ≤ R.cells) (hl : slots' ≤ R.slots)
    (k : ∀ (h' : Heap) (a b : Addr) (kb : ClassId), Ext h h' → Exa Z h' a "java/lang/String" → Fld Z h' a "java/lang/String" "coder" "B" (.int 0) → Fld Z h' a "java/lang/String" "value" "[B" (.ref b) → Arv Z h' b kb .byte z vs (.int 0) → Go W EL Z a0 own p l e R s m args below meth c F h' cells' slots' (mkF m pc' ls (.ref a :: st))) : Go W EL Z a0 own p l e R s m args below meth c F h cells slots (mkF m pc ls st) := by
  subst hp hcl hsl hWt
  intro T P
  obtain ⟨vm0, k0, locs, hWf, X, eT, hx, hZ, hown, hS, hk, hEL, hC, hN, hO⟩ := P
  obtain ⟨a, T', h', k1, b, kb, X', e', E', hS', hk', hZ', hown', q1, q2, q3, q4, -, -, hC', -, -, st'⟩ := ldcCH X hx hZ hown w wS eT hS hk hEL hmem hC.1 ht hz hlz (g := mkF m pc ls st) rfl hd hn hbig hc hl
  obtain ⟨t, o, h1, h2⟩ := k h' a b kb E' q1 q2 q3 q4 T' ⟨T'.vm, k1, _, (fun q => nomatch q), X', e', hx, hZ', hown', hS', hk', hEL, hC.trans hC', hN, hO.ext E'⟩
  exact ⟨t, o, st' _ h1, h2⟩
theorem go_initO {a : Addr} {idx Wd : Nat} (w1 : (Jvm.Cond.methodLink own idx Lib.objectInit).before a0 Z = true) (w2 : (Jvm.Cond.instanceMethod Lib.objectInit).before a0 Z = true) (w3 : (Jvm.Cond.code Lib.objectInit ⟨#[0xb1]⟩ 1 none).before a0 Z = true) (hsize : ls.size = c.maxLocals) (hW : 2 * 0 + (st.map fun v => v.category).sum ≤ Wd) (hf : 1 ≤ R.frames) (hl : Wd + 12 ≤ R.locals) (hd : decode c.code pc = .ok (.invokespecial idx, 3)) (hp : pc + 3 = pc') (k : Go W EL Z a0 own p l e R s m args below meth c F h cells slots (mkF m pc' ls st)) : Go W EL Z a0 own p l e R s m args below meth c F h cells slots (mkF m pc ls (.ref a :: st)) := by
  subst hp
  intro T P
  obtain ⟨vm0, k0, locs, hWf, X, eT, hx, hZ, hown, hS, hk, hEL, hC, hN, hO⟩ := P
  obtain ⟨T', X', e', st'⟩ := initO X hx hZ hown w1 w2 w3 eT (g := mkF m pc ls (.ref a :: st)) rfl hsize rfl hd hf (W := Wd) hW hl
  obtain ⟨t, o, h1, h2⟩ := k T' ⟨vm0, k0, locs, hWf, X', e', hx, hZ, hown, hS, hk, hEL, hC, hN, hO⟩
  exact ⟨t, o, st' _ h1, h2⟩
-- calls: what a payment gives back as a point of the caller's walk
theorem pt_back {vm0 vm₁ : Vm} {k0 : Nat} {locs L : List Loc} {T : State} {B : Pt} {ws : List Addr} {dc ds : Nat} (hWf : W = false → vm0 = s.vm) (eT : T.heap = h) (hx : p.tables.exec = Jvm.exec) (hZ : Z.Warmed39 vm0) (hown : vm0.findClass own = some m.cls) (hS : s.Since vm0 k0) (hk : k0 ≤ h.size) (hEL : EW Z a0 EL) (hC : CHr Z EL s.vm s.heap vm0 h) (hN : Fr Z.heap.size locs) (hO : Old Z Z.heap.size h)
    (X : Stand p l e R (s.setVm vm0) m args below meth c B.U B.locs B.cells B.slots) (hL : Fr Z.heap.size L) (K : Keep h B.U.heap ws) (b1 : B.locs = locs ++ L) (b2 : B.cells = cells + dc) (b3 : B.slots = slots + ds) (hws : ∀ x ∈ ws, Z.heap.size ≤ x) (hsf : ∀ vm, Z.vm.Alike vm → ∀ x ∈ ws, Safe Z EL vm h x) (hcl : cells + dc = cells') (hsl : slots + ds = slots') :
    PT W EL Z a0 own p l e R s m args below meth c B.U B.U.heap cells' slots' := by
  subst hcl hsl
  rw [b1, b2, b3] at X
  exact ⟨vm0, k0, _, hWf, X, rfl, hx, hZ, hown, hS, Nat.le_trans hk K.1, hEL, hC.trans (CHr.keep K (hsf _ hZ.alike) hC.1), hN.app hL, hO.keep K hws⟩
theorem pt_backS {vm0 : Vm} {k0 : Nat} {locs L : List Loc} {B : Pt} {ws : List Addr} {dc ds : Nat} (hWt : W = true) (hx : p.tables.exec = Jvm.exec) (hZ : Z.Warmed39 vm0) (hown : vm0.findClass own = some m.cls) (hS : s.Since vm0 k0) (hk : k0 ≤ h.size) (hEL : EW Z a0 EL) (hC : CHr Z EL s.vm s.heap vm0 h) (hN : Fr Z.heap.size locs) (hO : Old Z Z.heap.size h)
    (X : Stand p l e R (s.setVm B.U.vm) m args below meth c B.U B.locs B.cells B.slots) (S2 : (s.setVm vm0).Since B.U.vm B.U.heap.size) (hL : Fr Z.heap.size L) (K : Keep h B.U.heap ws) (b1 : B.locs = locs ++ L) (b2 : B.cells = cells + dc) (b3 : B.slots = slots + ds) (b4 : CHr Z EL vm0 h B.U.vm B.U.heap) (hws : ∀ x ∈ ws, Z.heap.size ≤ x) (hcl : cells + dc = cells') (hsl : slots + ds = slots') :
    PT W EL Z a0 own p l e R s m args below meth c B.U B.U.heap cells' slots' := by
  subst hcl hsl hWt
  rw [b1, b2, b3] at X
  have hZ' : Z.Warmed39 B.U.vm := State.Warmed39.trans (t := s.setVm vm0) (s := Z) hZ S2.1
  have hown' : B.U.vm.findClass own = some m.cls := by
    rw [S2.1.alike.findClass]
    exact hown
  exact ⟨B.U.vm, B.U.heap.size, _, (fun q => nomatch q), X, rfl, hx, hZ', hown', hS.trans S2 (Nat.le_trans hk K.1), Nat.le_refl _, hEL, hC.trans b4, hN.app hL, hO.keep K hws⟩
theorem callS0 {index Wd dc ds : Nat} {y : MethodName} {bytes : ByteArray} {maxL : Nat} {ret : Option FieldType} {argsL rest : List Value} {ws : List Addr} {Q : Option Value → Heap → Prop} {ps : List FieldType} {r : Option FieldType}
    (hK : Pay l R p e below Z y Wd argsL.toArray h dc ds ws Q) (w1 : (Jvm.Cond.methodLink own index y).before a0 Z = true) (w2 : (Jvm.Cond.static y).before a0 Z = true) (w3 : (Jvm.Cond.initialized y.cls).before a0 Z = true) (w4 : (Jvm.Cond.code y bytes maxL ret).before a0 Z = true) 
    (hpd : parseMethodDescriptor y.desc = some ⟨ps, r⟩) (hsize : ls.size = c.maxLocals) (hws : ∀ x ∈ ws, Z.heap.size ≤ x) (hsf : ∀ vm, Z.vm.Alike vm → ∀ x ∈ ws, Safe Z EL vm h x)
    (hd : decode c.code pc = .ok (.invokestatic index, 3)) (k : ∀ (v : Option Value) (h' : Heap), Q v h' → Keep h h' ws → Go W EL Z a0 own p l e R s m args below meth c F h' cells' slots' (mkF m (pc + 3) ls (v.toList ++ rest))) (hy : y.cls ≠ "java/lang/invoke/MethodHandle" ∧ y.cls ≠ "java/lang/invoke/VarHandle" := by decide) (hln : argsL.length = ps.length := by rfl) (hst : st = argsL.reverse ++ rest := by rfl) (hW : 2 * 0 + (rest.map fun v => v.category).sum ≤ Wd := by exact nb rfl) (hcl : cells + dc = cells' := by rfl) (hsl : slots + ds = slots' := by rfl) (hc : cells' ≤ R.cells := by decide) (hs : slots' ≤ R.slots := by decide) : Go W EL Z a0 own p l e R s m args below meth c F h cells slots (mkF m pc ls st) := by
  intro T P
  obtain ⟨vm0, k0, locs, hWf, X, eT, hx, hZ, hown, hS, hk, hEL, hC, hN, hO⟩ := P
  obtain ⟨v, vm₁, B, -, X', ⟨L, ⟨q1, q2, q3⟩, b1, b2, b3⟩, st'⟩ := Jvm.LawKit.callS X hx hown (mvT hZ w1) (mvT hZ w2) (mvT hZ w3) (mvT hZ w4) hy (hK _ _ hZ) (g := mkF m pc ls st) rfl hsize (lenOf hpd hln) hst hW hd (fun _ _ => ⟨rfl, eT, by rw [hcl]; exact hc, by rw [hsl]; exact hs⟩)
  obtain ⟨t, o, h1, h2⟩ := k v _ q1 q3 B.U (pt_back (vm₁ := vm₁) hWf eT hx hZ hown hS hk hEL hC hN hO X' q2 q3 b1 b2 b3 hws hsf hcl hsl)
  exact ⟨t, o, st' _ h1, h2⟩
theorem callU0 {index Wd dc ds : Nat} {y : MethodName} {bytes : ByteArray} {maxL : Nat} {ret : Option FieldType} {K : String} {a : Addr} {argsL rest : List Value} {ws : List Addr} {Q : Option Value → Heap → Prop} {ps : List FieldType} {r : Option FieldType}
    (hK : Pay l R p e below Z y Wd (.ref a :: argsL).toArray h dc ds ws Q) (I : Ins Z h a K true) (w1 : (Jvm.Cond.methodLink own index y).before a0 Z = true) (w2 : (Jvm.Cond.sameMethod y.cls y.cls y.name y.desc).before a0 Z = true) (w3 : (Jvm.Cond.instanceMethod y).before a0 Z = true) (w5 : (Jvm.Cond.superclass own y.cls).before a0 Z = true) (w4 : (Jvm.Cond.code y bytes maxL ret).before a0 Z = true) 
    (hpd : parseMethodDescriptor y.desc = some ⟨ps, r⟩) (hsize : ls.size = c.maxLocals) (hws : ∀ x ∈ ws, Z.heap.size ≤ x) (hsf : ∀ vm, Z.vm.Alike vm → ∀ x ∈ ws, Safe Z EL vm h x)
    (hd : decode c.code pc = .ok (.invokespecial index, 3)) (k : ∀ (v : Option Value) (h' : Heap), Q v h' → Keep h h' ws → Go W EL Z a0 own p l e R s m args below meth c F h' cells' slots' (mkF m (pc + 3) ls (v.toList ++ rest))) (hy : y.name ≠ "<init>" := by decide) (hln : argsL.length = ps.length := by rfl) (hst : st = argsL.reverse ++ .ref a :: rest := by rfl) (hW : 2 * 0 + (rest.map fun v => v.category).sum ≤ Wd := by exact nb rfl) (hcl : cells + dc = cells' := by rfl) (hsl : slots + ds = slots' := by rfl) (hc : cells' ≤ R.cells := by decide) (hs : slots' ≤ R.slots := by decide) : Go W EL Z a0 own p l e R s m args below meth c F h cells slots (mkF m pc ls st) := by
  intro T P
  obtain ⟨vm0, k0, locs, hWf, X, eT, hx, hZ, hown, hS, hk, hEL, hC, hN, hO⟩ := P
  obtain ⟨v, vm₁, B, -, X', ⟨L, ⟨q1, q2, q3⟩, b1, b2, b3⟩, st'⟩ := superBack X hx hZ hown w1 w2 w3 w5 hy (hK _ _ hZ) eT I (g := mkF m pc ls st) rfl hsize w4 (lenOf hpd hln) hst hW hd (fun _ _ => ⟨rfl, eT, by rw [hcl]; exact hc, by rw [hsl]; exact hs⟩)
  obtain ⟨t, o, h1, h2⟩ := k v _ q1 q3 B.U (pt_back (vm₁ := vm₁) hWf eT hx hZ hown hS hk hEL hC hN hO X' q2 q3 b1 b2 b3 hws hsf hcl hsl)
  exact ⟨t, o, st'.trans h1, h2⟩
theorem callI0 {index Wd dc ds : Nat} {y : MethodName} {bytes : ByteArray} {maxL : Nat} {a : Addr} {argsL rest : List Value} {ws : List Addr} {Q : Option Value → Heap → Prop} {ps : List FieldType} {r : Option FieldType}
    (hK : Pay l R p e below Z y Wd (.ref a :: argsL).toArray h dc ds ws Q) (hy1 : y.name = "<init>") (w1 : (Jvm.Cond.methodLink own index y).before a0 Z = true) (w2 : (Jvm.Cond.instanceMethod y).before a0 Z = true) (w4 : (Jvm.Cond.code y bytes maxL none).before a0 Z = true) 
    (hpd : parseMethodDescriptor y.desc = some ⟨ps, r⟩) (hsize : ls.size = c.maxLocals) (hws : ∀ x ∈ ws, Z.heap.size ≤ x) (hsf : ∀ vm, Z.vm.Alike vm → ∀ x ∈ ws, Safe Z EL vm h x)
    (hd : decode c.code pc = .ok (.invokespecial index, 3)) (k : ∀ (v : Option Value) (h' : Heap), Q v h' → Keep h h' ws → Go W EL Z a0 own p l e R s m args below meth c F h' cells' slots' (mkF m (pc + 3) ls (v.toList ++ rest))) (hy : y.cls ≠ "java/lang/invoke/MethodHandle" ∧ y.cls ≠ "java/lang/invoke/VarHandle" := by decide) (hln : argsL.length = ps.length := by rfl) (hst : st = argsL.reverse ++ .ref a :: rest := by rfl) (hW : 2 * 0 + (rest.map fun v => v.category).sum ≤ Wd := by exact nb rfl) (hcl : cells + dc = cells' := by rfl) (hsl : slots + ds = slots' := by rfl) (hc : cells' ≤ R.cells := by decide) (hs : slots' ≤ R.slots := by decide) : Go W EL Z a0 own p l e R s m args below meth c F h cells slots (mkF m pc ls st) := by
  intro T P
  obtain ⟨vm0, k0, locs, hWf, X, eT, hx, hZ, hown, hS, hk, hEL, hC, hN, hO⟩ := P
  obtain ⟨v, vm₁, B, -, X', ⟨L, ⟨q1, q2, q3⟩, b1, b2, b3⟩, st'⟩ := X.specialBack hx hy1 hown (mvT hZ w1) (mvT hZ w2) (mvT hZ w4) hy (hK _ _ hZ) (g := mkF m pc ls st) rfl hsize (Steps.refl _) (lenOf hpd hln) hst hW hd (fun _ _ => ⟨rfl, eT, by rw [hcl]; exact hc, by rw [hsl]; exact hs⟩)
  obtain ⟨t, o, h1, h2⟩ := k v _ q1 q3 B.U (pt_back (vm₁ := vm₁) hWf eT hx hZ hown hS hk hEL hC hN hO X' q2 q3 b1 b2 b3 hws hsf hcl hsl)
  exact ⟨t, o, st'.trans h1, h2⟩
theorem callIW0 {index Wd dc ds : Nat} {y : MethodName} {bytes : ByteArray} {maxL : Nat} {a : Addr} {argsL rest : List Value} {ws : List Addr} {Q : Option Value → Heap → Prop} {ps : List FieldType} {r : Option FieldType} (hWt : W = true)
    (hK : PayW EL l R p e below Z y Wd (.ref a :: argsL).toArray h dc ds ws Q) (hy1 : y.name = "<init>") (w1 : (Jvm.Cond.methodLink own index y).before a0 Z = true) (w2 : (Jvm.Cond.instanceMethod y).before a0 Z = true) (w4 : (Jvm.Cond.code y bytes maxL none).before a0 Z = true) 
    (hpd : parseMethodDescriptor y.desc = some ⟨ps, r⟩) (hsize : ls.size = c.maxLocals) (hws : ∀ x ∈ ws, Z.heap.size ≤ x)
    (hd : decode c.code pc = .ok (.invokespecial index, 3)) (k : ∀ (v : Option Value) (h' : Heap), Q v h' → Keep h h' ws → Go W EL Z a0 own p l e R s m args below meth c F h' cells' slots' (mkF m (pc + 3) ls (v.toList ++ rest))) (hy : y.cls ≠ "java/lang/invoke/MethodHandle" ∧ y.cls ≠ "java/lang/invoke/VarHandle" := by decide) (hln : argsL.length = ps.length := by rfl) (hst : st = argsL.reverse ++ .ref a :: rest := by rfl) (hW : 2 * 0 + (rest.map fun v => v.category).sum ≤ Wd := by exact nb rfl) (hcl : cells + dc = cells' := by rfl) (hsl : slots + ds = slots' := by rfl) (hc : cells' ≤ R.cells := by decide) (hs : slots' ≤ R.slots := by decide) : Go W EL Z a0 own p l e R s m args below meth c F h cells slots (mkF m pc ls st) := by
  intro T P
  obtain ⟨vm0, k0, locs, hWf, X, eT, hx, hZ, hown, hS, hk, hEL, hC, hN, hO⟩ := P
  obtain ⟨v, vm₁, B, -, X', S2, -, ⟨L, ⟨q1, q2, q3⟩, b1, b2, b3, b4⟩, st'⟩ := X.specialBackS hx hy1 hown (mvT hZ w1) (mvT hZ w2) (mvT hZ w4) hy (hK s vm0 _ hZ hC.1) (g := mkF m pc ls st) rfl hsize (Steps.refl _) (lenOf hpd hln) hst hW hd (fun _ _ => ⟨rfl, eT, by rw [hcl]; exact hc, by rw [hsl]; exact hs⟩)
  obtain ⟨t, o, h1, h2⟩ := k v _ q1 q3 B.U (pt_backS hWt hx hZ hown hS hk hEL hC hN hO X' S2 q2 q3 b1 b2 b3 b4 hws hcl hsl)
  exact ⟨t, o, st'.trans h1, h2⟩
theorem nf_of {S : State} {args : Array Value} {C : String} {y u : MethodName} (hz : u.cls = y.cls) (w : (Jvm.Cond.selects C u u).before args S = true) : NotFace S y := by
  intro r0 hr
  obtain ⟨c, r, m, h1, h2, h3, h4, mk, h5, h6⟩ := Cond.selects_spec w
  have e1 := findClass_of_methodNamed h3
  have e2 := findClass_of_methodNamed hr
  rw [hz] at e1
  have e3 : m.cls = r0.cls := Option.some.inj (e1.symm.trans e2)
  rw [e3] at h5
  exact ⟨mk, h5, h6⟩
theorem callN0 {index Wd dc ds : Nat} {y z u : MethodName} {C C' : String} {a : Addr} {argsL rest : List Value} {ws : List Addr} {Q : Option Value → Heap → Prop} {ps : List FieldType} {r : Option FieldType}
    (hK : Pay l R p e below Z z Wd (.ref a :: argsL).toArray h dc ds ws Q) (E : Exa Z h a C) (w1 : (Jvm.Cond.methodLink own index y).before a0 Z = true) (w2 : (Jvm.Cond.declares y).before a0 Z = true) (hz : u.cls = y.cls) (w3 : (Jvm.Cond.selects C' u u).before a0 Z = true) (w5 : (Jvm.Cond.selects C y z).before a0 Z = true) (w4 : (Jvm.Cond.instanceMethod z).before a0 Z = true) 
    (hpd : parseMethodDescriptor y.desc = some ⟨ps, r⟩) (hsize : ls.size = c.maxLocals) (hws : ∀ x ∈ ws, Z.heap.size ≤ x) (hsf : ∀ vm, Z.vm.Alike vm → ∀ x ∈ ws, Safe Z EL vm h x)
    (hd : decode c.code pc = .ok (.invokevirtual index, 3)) (k : ∀ (v : Option Value) (h' : Heap), Q v h' → Keep h h' ws → Go W EL Z a0 own p l e R s m args below meth c F h' cells' slots' (mkF m (pc + 3) ls (v.toList ++ rest))) (hy : y.cls ≠ "java/lang/invoke/MethodHandle" ∧ y.cls ≠ "java/lang/invoke/VarHandle" := by decide) (hln : argsL.length = ps.length := by rfl) (hst : st = argsL.reverse ++ .ref a :: rest := by rfl) (hW : 2 * 0 + (rest.map fun v => v.category).sum ≤ Wd := by exact nb rfl) (hcl : cells + dc = cells' := by rfl) (hsl : slots + ds = slots' := by rfl) (hc : cells' ≤ R.cells := by decide) (hs : slots' ≤ R.slots := by decide) : Go W EL Z a0 own p l e R s m args below meth c F h cells slots (mkF m pc ls st) := by
  intro T P
  obtain ⟨vm0, k0, locs, hWf, X, eT, hx, hZ, hown, hS, hk, hEL, hC, hN, hO⟩ := P
  obtain ⟨cB, kB, i1, i2, i3⟩ := isOf (T := T) (s := s.setVm vm0) hZ eT E
  obtain ⟨v, vm₁, B, -, X', ⟨L, ⟨q1, q2, q3⟩, b1, b2, b3⟩, st'⟩ := X.virtualBack hx (y := y) (z := z) hown (mvT hZ w1) (mvT hZ w2) (nf_of (args := #[]) hz (mvT hZ w3)) (mvT hZ w5) (mvT hZ w4) hy (hK _ _ hZ) i1 i3 (g := mkF m pc ls st) rfl hsize (Steps.refl _) (lenOf hpd hln) hst hW hd (fun _ _ => ⟨rfl, eT, by rw [hcl]; exact hc, by rw [hsl]; exact hs⟩)
  obtain ⟨t, o, h1, h2⟩ := k v _ q1 q3 B.U (pt_back (vm₁ := vm₁) hWf eT hx hZ hown hS hk hEL hC hN hO X' q2 q3 b1 b2 b3 hws hsf hcl hsl)
  exact ⟨t, o, st'.trans h1, h2⟩
theorem callV0 {index Wd dc ds : Nat} {y z : MethodName} {C C' : String} {a : Addr} {argsL rest : List Value} {ws : List Addr} {Q : Option Value → Heap → Prop} {ps : List FieldType} {r : Option FieldType}
    (hK : Pay l R p e below Z z Wd (.ref a :: argsL).toArray h dc ds ws Q) (E : Exa Z h a C) (w1 : (Jvm.Cond.methodLink own index y).before a0 Z = true) (w2 : (Jvm.Cond.declares y).before a0 Z = true) (w3 : (Jvm.Cond.selects C' y y).before a0 Z = true) (w5 : (Jvm.Cond.selects C y z).before a0 Z = true) (w4 : (Jvm.Cond.instanceMethod z).before a0 Z = true) 
    (hpd : parseMethodDescriptor y.desc = some ⟨ps, r⟩) (hsize : ls.size = c.maxLocals) (hws : ∀ x ∈ ws, Z.heap.size ≤ x) (hsf : ∀ vm, Z.vm.Alike vm → ∀ x ∈ ws, Safe Z EL vm h x)
    (hd : decode c.code pc = .ok (.invokevirtual index, 3)) (k : ∀ (v : Option Value) (h' : Heap), Q v h' → Keep h h' ws → Go W EL Z a0 own p l e R s m args below meth c F h' cells' slots' (mkF m (pc + 3) ls (v.toList ++ rest))) (hy : y.cls ≠ "java/lang/invoke/MethodHandle" ∧ y.cls ≠ "java/lang/invoke/VarHandle" := by decide) (hln : argsL.length = ps.length := by rfl) (hst : st = argsL.reverse ++ .ref a :: rest := by rfl) (hW : 2 * 0 + (rest.map fun v => v.category).sum ≤ Wd := by exact nb rfl) (hcl : cells + dc = cells' := by rfl) (hsl : slots + ds = slots' := by rfl) (hc : cells' ≤ R.cells := by decide) (hs : slots' ≤ R.slots := by decide) : Go W EL Z a0 own p l e R s m args below meth c F h cells slots (mkF m pc ls st) := by
  intro T P
  obtain ⟨vm0, k0, locs, hWf, X, eT, hx, hZ, hown, hS, hk, hEL, hC, hN, hO⟩ := P
  obtain ⟨cB, kB, i1, i2, i3⟩ := isOf (T := T) (s := s.setVm vm0) hZ eT E
  obtain ⟨v, vm₁, B, -, X', ⟨L, ⟨q1, q2, q3⟩, b1, b2, b3⟩, st'⟩ := X.virtualBack hx (y := y) (z := z) hown (mvT hZ w1) (mvT hZ w2) (notFace_of_selects (args := #[]) (mvT hZ w3)) (mvT hZ w5) (mvT hZ w4) hy (hK _ _ hZ) i1 i3 (g := mkF m pc ls st) rfl hsize (Steps.refl _) (lenOf hpd hln) hst hW hd (fun _ _ => ⟨rfl, eT, by rw [hcl]; exact hc, by rw [hsl]; exact hs⟩)
  obtain ⟨t, o, h1, h2⟩ := k v _ q1 q3 B.U (pt_back (vm₁ := vm₁) hWf eT hx hZ hown hS hk hEL hC hN hO X' q2 q3 b1 b2 b3 hws hsf hcl hsl)
  exact ⟨t, o, st'.trans h1, h2⟩
theorem callVW0 {index Wd dc ds : Nat} {y z : MethodName} {C C' : String} {a : Addr} {argsL rest : List Value} {ws : List Addr} {Q : Option Value → Heap → Prop} {ps : List FieldType} {r : Option FieldType} (hWt : W = true)
    (hK : PayW EL l R p e below Z z Wd (.ref a :: argsL).toArray h dc ds ws Q) (E : Exa Z h a C) (w1 : (Jvm.Cond.methodLink own index y).before a0 Z = true) (w2 : (Jvm.Cond.declares y).before a0 Z = true) (w3 : (Jvm.Cond.selects C' y y).before a0 Z = true) (w5 : (Jvm.Cond.selects C y z).before a0 Z = true) (w4 : (Jvm.Cond.instanceMethod z).before a0 Z = true) 
    (hpd : parseMethodDescriptor y.desc = some ⟨ps, r⟩) (hsize : ls.size = c.maxLocals) (hws : ∀ x ∈ ws, Z.heap.size ≤ x)
    (hd : decode c.code pc = .ok (.invokevirtual index, 3)) (k : ∀ (v : Option Value) (h' : Heap), Q v h' → Keep h h' ws → Go W EL Z a0 own p l e R s m args below meth c F h' cells' slots' (mkF m (pc + 3) ls (v.toList ++ rest))) (hy : y.cls ≠ "java/lang/invoke/MethodHandle" ∧ y.cls ≠ "java/lang/invoke/VarHandle" := by decide) (hln : argsL.length = ps.length := by rfl) (hst : st = argsL.reverse ++ .ref a :: rest := by rfl) (hW : 2 * 0 + (rest.map fun v => v.category).sum ≤ Wd := by exact nb rfl) (hcl : cells + dc = cells' := by rfl) (hsl : slots + ds = slots' := by rfl) (hc : cells' ≤ R.cells := by decide) (hs : slots' ≤ R.slots := by decide) : Go W EL Z a0 own p l e R s m args below meth c F h cells slots (mkF m pc ls st) := by
  intro T P
  obtain ⟨vm0, k0, locs, hWf, X, eT, hx, hZ, hown, hS, hk, hEL, hC, hN, hO⟩ := P
  obtain ⟨cB, kB, i1, i2, i3⟩ := isOf (T := T) (s := s.setVm vm0) hZ eT E
  obtain ⟨v, vm₁, B, -, X', S2, -, ⟨L, ⟨q1, q2, q3⟩, b1, b2, b3, b4⟩, st'⟩ := X.virtualBackS hx (y := y) (z := z) hown (mvT hZ w1) (mvT hZ w2) (notFace_of_selects (args := #[]) (mvT hZ w3)) (mvT hZ w5) (mvT hZ w4) hy (hK s vm0 _ hZ hC.1) i1 i3 (g := mkF m pc ls st) rfl hsize (Steps.refl _) (lenOf hpd hln) hst hW hd (fun _ _ => ⟨rfl, eT, by rw [hcl]; exact hc, by rw [hsl]; exact hs⟩)
  obtain ⟨t, o, h1, h2⟩ := k v _ q1 q3 B.U (pt_backS hWt hx hZ hown hS hk hEL hC hN hO X' S2 q2 q3 b1 b2 b3 b4 hws hcl hsl)
  exact ⟨t, o, st'.trans h1, h2⟩
theorem callP0 {index Wd dc ds : Nat} {y : MethodName} {bytes : ByteArray} {maxL : Nat} {ret : Option FieldType} {C : String} {a : Addr} {argsL rest : List Value} {ws : List Addr} {Q : Option Value → Heap → Prop} {ps : List FieldType} {r : Option FieldType}
    (hK : Pay l R p e below Z y Wd (.ref a :: argsL).toArray h dc ds ws Q) (E : Exa Z h a C) (w1 : (Jvm.Cond.methodLink own index y).before a0 Z = true) (w2 : (Jvm.Cond.instanceMethod y).before a0 Z = true) (w3 : (Jvm.Cond.selects y.cls y y).before a0 Z = true) (w5 : (Jvm.Cond.privateMethod y).before a0 Z = true) (w4 : (Jvm.Cond.code y bytes maxL ret).before a0 Z = true) 
    (hpd : parseMethodDescriptor y.desc = some ⟨ps, r⟩) (hsize : ls.size = c.maxLocals) (hws : ∀ x ∈ ws, Z.heap.size ≤ x) (hsf : ∀ vm, Z.vm.Alike vm → ∀ x ∈ ws, Safe Z EL vm h x)
    (hd : decode c.code pc = .ok (.invokevirtual index, 3)) (k : ∀ (v : Option Value) (h' : Heap), Q v h' → Keep h h' ws → Go W EL Z a0 own p l e R s m args below meth c F h' cells' slots' (mkF m (pc + 3) ls (v.toList ++ rest))) (hy : y.cls ≠ "java/lang/invoke/MethodHandle" ∧ y.cls ≠ "java/lang/invoke/VarHandle" := by decide) (hln : argsL.length = ps.length := by rfl) (hst : st = argsL.reverse ++ .ref a :: rest := by rfl) (hW : 2 * 0 + (rest.map fun v => v.category).sum ≤ Wd := by exact nb rfl) (hcl : cells + dc = cells' := by rfl) (hsl : slots + ds = slots' := by rfl) (hc : cells' ≤ R.cells := by decide) (hs : slots' ≤ R.slots := by decide) : Go W EL Z a0 own p l e R s m args below meth c F h cells slots (mkF m pc ls st) := by
  intro T P
  obtain ⟨vm0, k0, locs, hWf, X, eT, hx, hZ, hown, hS, hk, hEL, hC, hN, hO⟩ := P
  obtain ⟨cl, i1, i2⟩ := E.cell
  obtain ⟨v, vm₁, B, -, X', ⟨L, ⟨q1, q2, q3⟩, b1, b2, b3⟩, st'⟩ := X.privateBack hx (y := y) hown (mvT hZ w1) (mvT hZ w2) (mvT hZ w3) (Cond.privateMethod_at (args := #[]) (mvP hZ w5)) (mvT hZ w4) hy (hK _ _ hZ) (g := mkF m pc ls st) rfl hsize (Steps.refl _) (by rw [eT]; exact i1) i2 (lenOf hpd hln) hst hW hd (fun _ _ => ⟨rfl, eT, by rw [hcl]; exact hc, by rw [hsl]; exact hs⟩)
  obtain ⟨t, o, h1, h2⟩ := k v _ q1 q3 B.U (pt_back (vm₁ := vm₁) hWf eT hx hZ hown hS hk hEL hC hN hO X' q2 q3 b1 b2 b3 hws hsf hcl hsl)
  exact ⟨t, o, st'.trans h1, h2⟩
theorem k_v {ws : List Addr} {QV : Value → Heap → Prop} {rest : List Value} (hp : pc + 3 = pc') (k : ∀ (x : Value) (h' : Heap), QV x h' → Keep h h' ws → Go W EL Z a0 own p l e R s m args below meth c F h' cells' slots' (mkF m pc' ls (x :: rest))) : ∀ (v : Option Value) (h' : Heap), rvl QV v h' → Keep h h' ws → Go W EL Z a0 own p l e R s m args below meth c F h' cells' slots' (mkF m (pc + 3) ls (v.toList ++ rest)) := by
  subst hp
  rintro _ h' ⟨x, rfl, q⟩ K
  exact k x h' q K
theorem k_n {ws : List Addr} {QN : Heap → Prop} {rest : List Value} (hp : pc + 3 = pc') (k : ∀ (h' : Heap), QN h' → Keep h h' ws → Go W EL Z a0 own p l e R s m args below meth c F h' cells' slots' (mkF m pc' ls rest)) : ∀ (v : Option Value) (h' : Heap), rno QN v h' → Keep h h' ws → Go W EL Z a0 own p l e R s m args below meth c F h' cells' slots' (mkF m (pc + 3) ls (v.toList ++ rest)) := by
  subst hp
  rintro _ h' ⟨rfl, q⟩ K
  exact k h' q K
-- the end
theorem fin_of {vm0 : Vm} {k0 : Nat} {locs : List Loc} {T : State} {h0 : Heap} {ws : List Addr} {Q : Option Value → Heap → Prop} {dc ds : Nat} {v : Option Value} (hlk : meth.locks = false) (hWf : W = false → vm0 = s.vm) (X : Stand p l e R (s.setVm vm0) m args below meth c T locs cells slots) (eT : T.heap = h) (hZ : Z.Warmed39 vm0) (hS : s.Since vm0 k0) (hk : k0 ≤ h.size) (hEL : EW Z a0 EL) (hC : CHr Z EL s.vm s.heap vm0 h) (hN : Fr Z.heap.size locs) (hv : meth.sig.returnType = none → v = none) (hq : Q v h) (K : Keep h0 h ws) (hc : cells ≤ dc) (hs : slots ≤ ds) :
    ∃ fs, (∀ (f : JFrame) (acts : List Action), f.method = m → f.locked = none → f.entered = [] → (doReturn e (T.setTop f) acts v).1 = T.setFrames fs) ∧ (T.setFrames fs).status = .running ∧ Ended (T.setFrames fs) below (.returned v) ∧ Fend W EL Z s h0 ws Q dc ds (.returned v) (T.setFrames fs) := by
  cases W
  · obtain rfl := hWf rfl
    obtain ⟨fs, hr, hrun, hended, hW, hsame⟩ := X.leave (v := v) hv hlk
    exact ⟨fs, hr, hrun, hended, v, locs, rfl, ⟨by rw [show (T.setFrames fs).heap = h from eT]; exact hq, hN, by rw [show (T.setFrames fs).heap = h from eT]; exact K⟩, (fun q => nomatch q), fun _ => ⟨⟨v, rfl⟩, hW, hsame.mono hc hs⟩⟩
  · obtain ⟨fs, hr, hrun, hended, q1, q2, q3, q4⟩ := X.leaveW hS (by rw [eT]; exact hk) (v := v) hv hlk
    exact ⟨fs, hr, hrun, hended, v, locs, rfl, ⟨by rw [show (T.setFrames fs).heap = h from eT]; exact hq, hN, by rw [show (T.setFrames fs).heap = h from eT]; exact K⟩, fun _ => ⟨by rw [show (T.setFrames fs).heap = h from eT]; exact hC.trans (show CHr Z EL vm0 h T.vm h from CHv.at X hZ hEL hC.1), q1, q2, q3, q4.mono hc hs⟩, (fun q => nomatch q)⟩
theorem go_areturn {v : Value} {t : FieldType} {h0 : Heap} {ws : List Addr} {Q : Option Value → Heap → Prop} {dc ds : Nat} (hret : meth.sig.returnType = some t) (hlk : meth.locks = false) (ht : t.isReference = true) (hv : v.isRef = true) (hd : decode c.code pc = .ok (.areturn, 1)) (hc : cells ≤ dc) (hs : slots ≤ ds) (hq : Q (some v) h) (K : Keep h0 h ws) :
    Go W EL Z a0 own p l e R s m args below meth c (Fend W EL Z s h0 ws Q dc ds) h cells slots (mkF m pc ls [v]) := by
  intro T P
  obtain ⟨vm0, k0, locs, hWf, X, eT, hx, hZ, hown, hS, hk, hEL, hC, hN, hO⟩ := P
  obtain ⟨fs, hr, q1, q2, q3⟩ := fin_of hlk hWf X eT hZ hS hk hEL hC hN (v := some v) (fun q => by rw [hret] at q; cases q) hq K hc hs
  exact ⟨_, _, X.areturnOut hx hv hret ht hd hr, q1, q2, q3⟩
theorem go_return {h0 : Heap} {ws : List Addr} {Q : Option Value → Heap → Prop} {dc ds : Nat} (hret : meth.sig.returnType = none) (hlk : meth.locks = false) (hd : decode c.code pc = .ok (.return_, 1)) (hc : cells ≤ dc) (hs : slots ≤ ds) (hq : Q none h) (K : Keep h0 h ws) :
    Go W EL Z a0 own p l e R s m args below meth c (Fend W EL Z s h0 ws Q dc ds) h cells slots (mkF m pc ls []) := by
  intro T P
  obtain ⟨vm0, k0, locs, hWf, X, eT, hx, hZ, hown, hS, hk, hEL, hC, hN, hO⟩ := P
  obtain ⟨fs, hr, q1, q2, q3⟩ := fin_of hlk hWf X eT hZ hS hk hEL hC hN (v := none) (fun _ => rfl) hq K hc hs
  exact ⟨_, _, X.returnOut hx hret hd hr, q1, q2, q3⟩
theorem go_ireturn {x : Int32} {t : FieldType} {h0 : Heap} {ws : List Addr} {Q : Option Value → Heap → Prop} {dc ds : Nat} (hret : meth.sig.returnType = some t) (hlk : meth.locks = false) (hn : narrow t (.int x) = .int x) (hti : t = .int ∨ t = .boolean ∨ t = .byte ∨ t = .char ∨ t = .short) (hd : decode c.code pc = .ok (.ireturn, 1)) (hc : cells ≤ dc) (hs : slots ≤ ds) (hq : Q (some (.int x)) h) (K : Keep h0 h ws) :
    Go W EL Z a0 own p l e R s m args below meth c (Fend W EL Z s h0 ws Q dc ds) h cells slots (mkF m pc ls [.int x]) := by
  intro T P
  obtain ⟨vm0, k0, locs, hWf, X, eT, hx, hZ, hown, hS, hk, hEL, hC, hN, hO⟩ := P
  obtain ⟨fs, hr, q1, q2, q3⟩ := fin_of hlk hWf X eT hZ hS hk hEL hC hN (v := some (.int x)) (fun q => by rw [hret] at q; cases q) hq K hc hs
  exact ⟨_, _, X.ireturnOut hx hret hn hti hd hr, q1, q2, q3⟩
theorem go_lreturn {x : Int64} {h0 : Heap} {ws : List Addr} {Q : Option Value → Heap → Prop} {dc ds : Nat} (hret : meth.sig.returnType = some .long) (hlk : meth.locks = false) (hd : decode c.code pc = .ok (.lreturn, 1)) (hc : cells ≤ dc) (hs : slots ≤ ds) (hq : Q (some (.long x)) h) (K : Keep h0 h ws) :
    Go W EL Z a0 own p l e R s m args below meth c (Fend W EL Z s h0 ws Q dc ds) h cells slots (mkF m pc ls [.long x]) := by
  intro T P
  obtain ⟨vm0, k0, locs, hWf, X, eT, hx, hZ, hown, hS, hk, hEL, hC, hN, hO⟩ := P
  obtain ⟨fs, hr, q1, q2, q3⟩ := fin_of hlk hWf X eT hZ hS hk hEL hC hN (v := some (.long x)) (fun q => by rw [hret] at q; cases q) hq K hc hs
  exact ⟨_, _, X.lreturnOut hx hret hd hr, q1, q2, q3⟩
theorem go_acopy {a b : Addr} {kA kB : ClassId} {ty : FieldType} {z z' sp dp nn : Int32} {vs vd vd' : List Value} {dv dd : Value} {index Wd : Nat} (w1 : (Jvm.Cond.methodLink own index Jvm.Stand.acN).before a0 Z = true) (w2 : (Jvm.Cond.native Jvm.Stand.acN).before a0 Z = true) (w3 : (Jvm.Cond.static Jvm.Stand.acN).before a0 Z = true) (w4 : (Jvm.Cond.initialized "java/lang/System").before a0 Z = true) (hE : EL = []) (A : Arv Z h a kA ty z vs dv) (B : Arv Z h b kB ty z' vd dd) (hty : refKind ty = false)
    (h1 : ¬ sp < 0) (h2 : ¬ dp < 0) (h3 : ¬ nn < 0) (h4 : sp.toNatClampNeg + nn.toNatClampNeg ≤ z.toNatClampNeg) (h5 : dp.toNatClampNeg + nn.toNatClampNeg ≤ z'.toNatClampNeg) (hl : dp.toNatClampNeg + nn.toNatClampNeg ≤ vd.length) (hb : Z.heap.size ≤ b) (hvd : vd.take dp.toNatClampNeg ++ ((List.range nn.toNatClampNeg).map fun i => vs.getD (sp.toNatClampNeg + i) dv) ++ vd.drop (dp.toNatClampNeg + nn.toNatClampNeg) = vd')
    (hsize : ls.size = c.maxLocals) (hW : 2 * 0 + (st.map fun v => v.category).sum ≤ Wd) (hf : 1 ≤ R.frames) (hlo : Wd + 18 ≤ R.locals) (hd : decode c.code pc = .ok (.invokestatic index, 3)) (hp : pc + 3 = pc')
    (k : ∀ h', Keep h h' [b] → Arv Z h' b kB ty z' vd' dd → Go W EL Z a0 own p l e R s m args below meth c F h' cells slots (mkF m pc' ls st)) : Go W EL Z a0 own p l e R s m args below meth c F h cells slots (mkF m pc ls (.int nn :: .int dp :: .ref b :: .int sp :: .ref a :: st)) := by
  subst hp hvd hE
  intro T P
  obtain ⟨vm0, k0, locs, hWf, X, eT, hx, hZ, hown, hS, hk, hEL, hC, hN, hO⟩ := P
  obtain ⟨T', h', L, X', e', N', K', A', st'⟩ := cpA X hx hZ hown w1 w2 w3 w4 eT A B (Or.inl ⟨rfl, hty⟩) h1 h2 h3 h4 h5 rfl hl hN hb (g := mkF m pc ls (.int nn :: .int dp :: .ref b :: .int sp :: .ref a :: st)) rfl hsize rfl hd hf (W := Wd) hW hlo
  obtain ⟨t, o, g1, g2⟩ := k h' K' A' T' ⟨vm0, k0, L, hWf, X', e', hx, hZ, hown, hS, Nat.le_trans hk K'.1, hEL, hC.trans (CHr.keep K' (fun _ _ => safe_nil) hC.1), N', hO.keep K' (allS hb all0)⟩
  exact ⟨t, o, st' _ g1, g2⟩
end Own
abbrev EL1 : List (String × Nat) := [("com/example/onceward/onceward/HostPort", 87), ("java/lang/String", 7)]
def GH (Z : State) (a0 : Array Value) : Prop := (∀ d ∈ tables_1, d.before a0 Z = true) ∧ (∀ d ∈ jdkStatics_1, d.before a0 Z = true) ∧ EW Z a0 EL1 ∧ (narrow_1.value a0 Z none Z [] = some true) ∧ Fit Z
theorem wk {Z : State} {a0 : Array Value} (G : GH Z a0) (k : Nat) {d : Jvm.Cond} (q : tables_1[k]? = some d := by rfl) : d.before a0 Z = true := G.1 _ (List.mem_of_getElem? q)
theorem jk {Z : State} {a0 : Array Value} (G : GH Z a0) (k : Nat) {d : Jvm.Cond} (q : jdkStatics_1[k]? = some d) : d.before a0 Z = true := G.2.1 _ (List.mem_of_getElem? q)
theorem ew1 {Z : State} {a0 : Array Value} (G : GH Z a0) : EW Z a0 EL1 := G.2.2.1
theorem wS {Z : State} {a0 : Array Value} (G : GH Z a0) : ∀ a ∈ Bundle.stringAtoms, a.before a0 Z = true := fun a ha => G.1 a ((by decide +kernel : ∀ d ∈ Bundle.stringAtoms, d ∈ tables_1) a ha)
theorem cs_of {Z : State} {a0 : Array Value} (G : GH Z a0) : ∃ z, Sta Z Z.heap "java/lang/String" "COMPACT_STRINGS" "Z" (.int z) ∧ ¬ z = 0 := by
  obtain ⟨z, e1⟩ := is_v (Cond.before_iff.mp (jk G 1 rfl))
  exact ⟨z, Sta.start e1 (Or.inl (jk G 0 rfl)), gotF (Cond.eq_ints e1 (Term.int_eval (0))) (not_v (Cond.before_iff.mp (jk G 2 rfl)))⟩
theorem sf_of {Z : State} {a0 : Array Value} (G : GH Z a0) : ∃ v, Sta Z Z.heap "jdk/internal/util/Preconditions" "SIOOBE_FORMATTER" "Ljava/util/function/BiFunction;" v ∧ v.isRef = true := by
  obtain ⟨v, e1, r1⟩ := isR_v (Cond.before_iff.mp (jk G 8 rfl))
  exact ⟨v, Sta.start e1 (Or.inl (jk G 7 rfl)), r1⟩
theorem conN {l : Launch} {Z : State} {a0 : Array Value} {ls : Array Slot} {h : Heap} {y : MethodName} {bytes : ByteArray} {maxL : Nat} {ret : Option FieldType} {wl : List Jvm.Cond} {rm : Room} {as' : Array Value} {ws : List Addr} {Q : Option Value → Heap → Prop} (G : GH Z a0) (hname : plainFor y = true) (hO : Old Z Z.heap.size h) (hef : ∀ m, entryFrame m as' maxL = mkF m 0 ls [])
    (body : ∀ (p : Program) (e : Env) (s : State) (m : MethodId) (below : List Frame) (meth : Method) (c : Code), (∀ {pc : Nat} {r : Except DecodeError (Instr × Nat)}, decode bytes pc = r → decode c.code pc = r) → c.maxLocals = maxL → meth.sig.returnType = ret → meth.locks = false → meth.name = y.name → Go false [] Z a0 y.cls p l e rm s m as' below meth c (Fend false [] Z s h ws Q rm.cells rm.slots) h 0 0 (mkF m 0 ls [])) :
    Con false [] l Z y bytes maxL ret wl rm as' h ws Q := con_of hname (fun _ => rfl) EW.nil hO hef body
theorem conW {l : Launch} {Z : State} {a0 : Array Value} {ls : Array Slot} {h : Heap} {y : MethodName} {bytes : ByteArray} {maxL : Nat} {ret : Option FieldType} {wl : List Jvm.Cond} {rm : Room} {as' : Array Value} {ws : List Addr} {Q : Option Value → Heap → Prop} (G : GH Z a0) (hname : plainFor y = true) (hO : Old Z Z.heap.size h) (hef : ∀ m, entryFrame m as' maxL = mkF m 0 ls [])
    (body : ∀ (p : Program) (e : Env) (s : State) (m : MethodId) (below : List Frame) (meth : Method) (c : Code), (∀ {pc : Nat} {r : Except DecodeError (Instr × Nat)}, decode bytes pc = r → decode c.code pc = r) → c.maxLocals = maxL → meth.sig.returnType = ret → meth.locks = false → meth.name = y.name → Go true EL1 Z a0 y.cls p l e rm s m as' below meth c (Fend true EL1 Z s h ws Q rm.cells rm.slots) h 0 0 (mkF m 0 ls [])) :
    Con true EL1 l Z y bytes maxL ret wl rm as' h ws Q := con_of hname (fun q => nomatch q) (ew1 G) hO hef body
theorem held_of {s : State} {q : String × Nat} (h : Jvm.Pilot.@@N@@.Jvm.D.constHeld s q.1 q.2) : Jvm.Lit.constHeld s q.1 q.2 := h
section OwnStr
variable {W : Bool} {EL : List (String × Nat)} {Z : State} {a0 : Array Value} {own : String} {p : Program} {l : Launch} {e : Env} {R : Room} {below : List Frame} {h h' : Heap} {x b : Addr} {cs ds : List Int32}
abbrev C8 (c : Int32) : Prop := ¬ c < 0 ∧ ¬ (255 : Int32) < c
theorem c8n : ∀ c ∈ ([] : List Int32), C8 c := fun _ q => nomatch q
theorem c8c {y : Int32} {L : List Int32} (q : C8 y) (r : ∀ c ∈ L, C8 c) : ∀ c ∈ y :: L, C8 c := fun c hc => by
  rcases List.mem_cons.mp hc with rfl | hc
  · exact q
  · exact r c hc
theorem c8_m (y : Int32) : C8 (y &&& 255) := by
  have q := c_and y 255 (by decide)
  have e1 : (255 : Int32).toInt = 255 := by decide
  have e0 : (0 : Int32).toInt = 0 := by decide
  constructor <;> (intro r; rw [Int32.lt_iff_toInt_lt] at r; omega)
theorem c8_up {c : Int32} (q : C8 c) : ¬ c < 0 ∧ ¬ (65535 : Int32) < c := ⟨q.1, fun r => q.2 (by
  rw [Int32.lt_iff_toInt_lt] at r ⊢
  have e1 : (65535 : Int32).toInt = 65535 := by decide
  have e2 : (255 : Int32).toInt = 255 := by decide
  omega)⟩
theorem i2c_c16 {c : Int32} (q : ¬ c < 0 ∧ ¬ (65535 : Int32) < c) : c.toUInt32.toUInt16.toUInt32.toInt32 = c := by
  have r := c_i2c c
  obtain ⟨q1, q2⟩ := q
  rw [Int32.lt_iff_toInt_lt] at q1 q2
  have e1 : (65535 : Int32).toInt = 65535 := by decide
  have e0 : (0 : Int32).toInt = 0 := by decide
  apply Int32.toInt_inj.mp
  omega
theorem i2c_c8 {c : Int32} (q : C8 c) : c.toUInt32.toUInt16.toUInt32.toInt32 = c := i2c_c16 (c8_up q)
def Str (Z : State) (h : Heap) (a : Addr) (cs : List Int32) : Prop := ∃ (t : Addr) (kb : ClassId), Exa Z h a "java/lang/String" ∧ Fld Z h a "java/lang/String" "value" "[B" (.ref t) ∧ Fld Z h a "java/lang/String" "coder" "B" (.int 0) ∧ Arv Z h t kb .byte (Int32.ofNat cs.length) ((cs.map fun c => c.toInt8.toInt32).map Value.int) (.int 0) ∧ (∀ c ∈ cs, C8 c) ∧ cs.length ≤ 4000
theorem Str.exa (S : Str Z h x cs) : Exa Z h x "java/lang/String" := by obtain ⟨t, k, q, -⟩ := S; exact q
theorem Str.keep (S : Str Z h x cs) (K : Keep h h' []) : Str Z h' x cs := by
  obtain ⟨t, k, q1, q2, q3, q4, q5, q6⟩ := S
  exact ⟨t, k, q1.keep K, q2.keep K nin0, q3.keep K nin0, q4.keep K nin0, q5, q6⟩
theorem Str.ext (S : Str Z h x cs) (E : Ext h h') : Str Z h' x cs := S.keep ((Keep.refl h []).ext E)
theorem safe_null {vm : Vm} (hal : Z.vm.Alike vm) (E : Exa Z h x "java/lang/String") (V : Fld Z h x "java/lang/String" "value" "[B" .null) : Safe Z EL vm h x := fun B => by
  obtain ⟨cell, k, e1, e2, e3, -, -⟩ := E
  obtain ⟨cell', cf, k', i, f, v1, v2, v3, v4, v5, v6, v7⟩ := V
  cases e1.symm.trans v1
  obtain ⟨p, -, u, a, -, q, -, F, rfl | rfl⟩ := B
  · cases (show h[q.sa]? = some q.sC from F.ha).symm.trans e1
    obtain ⟨cS, ⟨⟨s1, s2, s3, ⟨cv, kv, iv, s4, s4'⟩, s5, s6, s7, s8, s9⟩, -, -⟩, -⟩ := F
    obtain ⟨kz, z4⟩ := ff_back (U := Wst Z vm h) hal s4
    cases z4.symm.trans v2
    rw [s8] at v7
    cases v7
  · cases (show h[q.sd]? = some q.SA from F.hd).symm.trans e1
    obtain ⟨cS, -, -, fB, -⟩ := F
    have f' : vm.findClass "[B" = some q.SA.cls := fB
    rw [hal.findClass] at f'
    obtain ⟨k1, q1, q2⟩ := Vm.findClass_spec f'
    obtain ⟨k2, q3, q4⟩ := Vm.findClass_spec e2
    cases q1.symm.trans q3
    exact absurd (q2.symm.trans q4) (by decide)
theorem go_empty {W : Bool} {s : State} {m : MethodId} {args : Array Value} {meth : Method} {c : Code} {F : Outcome → State → Prop} {cells slots : Nat} {ls : Array Slot} {a : Addr} (G : GH Z a0) (hWt : W = true) (hmem : ("java/lang/String", 7) ∈ EL) (hnm : meth.name = "<init>") (hls : ls[0]? = some (.val (.ref a)))
    (w1 : (Jvm.Cond.stringLink "java/lang/String" 7 "").before a0 Z = true) (w2 : (Jvm.Cond.fieldLink "java/lang/String" 9 "java/lang/String" "value" "[B").before a0 Z = true) (w3 : (Jvm.Cond.fieldLink "java/lang/String" 15 "java/lang/String" "coder" "B").before a0 Z = true) (w4 : (Jvm.Cond.laysFinal "java/lang/String" "java/lang/String" "value" "[B").before a0 Z = true) (w5 : (Jvm.Cond.laysFinal "java/lang/String" "java/lang/String" "coder" "B").before a0 Z = true) (wi : (Jvm.Cond.instantiable "java/lang/String" 4).before a0 Z = true)
    (E : Exa Z h a "java/lang/String") (V : Fld Z h a "java/lang/String" "value" "[B" .null) (Cd : Fld Z h a "java/lang/String" "coder" "B" (.int 0)) (za : Z.heap.size ≤ a)
    (d8 : decode c.code 8 = .ok (.aload_n 0, 1)) (d9 : decode c.code 9 = .ok (.ldc 7, 2)) (d11 : decode c.code 11 = .ok (.getfield 9, 3)) (d14 : decode c.code 14 = .ok (.putfield 9, 3)) (d17 : decode c.code 17 = .ok (.aload_n 0, 1)) (d18 : decode c.code 18 = .ok (.ldc 7, 2)) (d20 : decode c.code 20 = .ok (.getfield 15, 3)) (d23 : decode c.code 23 = .ok (.putfield 15, 3))
    (hc : cells + 4 ≤ R.cells) (hl : slots + 8 ≤ R.slots)
    (k : ∀ h', Str Z h' a [] → Keep h h' [a] → Go W EL Z a0 "java/lang/String" p l e R s m args below meth c F h' (cells + 4) (slots + 8) (mkF m 26 ls [])) : Go W EL Z a0 "java/lang/String" p l e R s m args below meth c F h cells slots (mkF m 8 ls []) := by
  subst hWt
  intro T P
  obtain ⟨vm0, k0, locs, hWf, X, eT, hx, hZ, hown, hS, hk, hEL, hC, hN, hO⟩ := P
  have hal0 : h.size > a := E.lt
  have S0 : Safe Z EL vm0 h a := safe_null hZ.alike E V
  obtain ⟨a1, T1, h1, k1, b1, kb1, X1, e1, E1, hS1, hk1, hZ1, hown1, q1, q2, q3, q4, -, -, hC1, -, ne1, st1⟩ := ldcCH X hx hZ hown w1 (wS G) eT hS hk hEL hmem hC.1 (vs := []) (z := 0) (by decide) (by decide) (by decide) (g := mkF m 9 ls [.ref a]) rfl d9 (n := 0) (by decide) (by decide) (by omega) (by omega)
  have hZ1 : Z.Warmed39 T1.vm := hZ1
  have S1 : Safe Z EL T1.vm h1 a := hC1.safe hal0 S0
  obtain ⟨T2, X2, e2, st2⟩ := getF X1 hx hZ1 hown1 (host := "") (Or.inl w2) Via.refl e1 q3 (g := mkF m 11 ls [.ref a1, .ref a]) rfl rfl d11
  obtain ⟨T3, h3, X3, e3, W3, st3⟩ := putFN X2 hx hZ1 hown1 w2 Via.refl e2 (V.ext E1) (E.ext E1) (Or.inr ⟨w4, rfl, hnm⟩) wi (ty := .array .byte) (v' := .ref b1) (by decide) rfl rfl (g := mkF m 14 ls [.ref b1, .ref a]) rfl rfl d14
  have hC3 : CHr Z EL vm0 h T1.vm h3 := hC1.trans (CHr.wr W3 S1 hC1.1)
  have S3 : Safe Z EL T1.vm h3 a := Safe.wr W3 S1 hC1.1 S1
  have A3 := q4.other W3 (Ne.symm (ne1 a S1).2)
  have V3 := (V.ext E1).same W3
  have C3 := (Cd.ext E1).other W3 (Or.inr (slot_ne (t := .byte) (t' := .array .byte) (Or.inr w5) (Or.inr w4) (by decide) (by decide) (by decide)))
  have X3' : Exa Z h3 a "java/lang/String" := (E.ext E1).wr W3
  have hk3 : k1 ≤ h3.size := by rw [W3.size]; exact hk1
  obtain ⟨a4, T4, h4, k4, b4, kb4, X4, e4, E4, hS4, hk4, hZ4, hown4, r1, r2, r3, r4, -, -, hC4, -, ne4, st4⟩ := ldcCH X3 hx hZ1 hown1 w1 (wS G) e3 hS1 hk3 hEL hmem hC3.1 (vs := []) (z := 0) (by decide) (by decide) (by decide) (g := mkF m 18 ls [.ref a]) rfl d18 (n := 0) (by decide) (by decide) (by omega) (by omega)
  have hZ4 : Z.Warmed39 T4.vm := hZ4
  have S4 : Safe Z EL T4.vm h4 a := hC4.safe X3'.lt S3
  obtain ⟨T5, X5, e5, st5⟩ := getF X4 hx hZ4 hown4 (host := "") (Or.inl w3) Via.refl e4 r2 (g := mkF m 20 ls [.ref a4, .ref a]) rfl rfl d20
  obtain ⟨T6, h6, X6, e6, W6, st6⟩ := putFN X5 hx hZ4 hown4 w3 Via.refl e5 (C3.ext E4) (X3'.ext E4) (Or.inr ⟨w5, rfl, hnm⟩) wi (ty := .byte) (v' := .int 0) (by decide) rfl rfl (g := mkF m 23 ls [.int 0, .ref a]) rfl rfl d23
  have ext4 : Exa Z h4 a "java/lang/String" := X3'.ext E4
  have nb : b1 ≠ a := Ne.symm (ne1 a S1).2
  have KK : Keep h h6 [a] := ((((Keep.refl h [a]).ext E1).wr W3 (Or.inl (by simp))).ext E4).wr W6 (Or.inl (by simp))
  have SS : Str Z h6 a [] := ⟨b1, kb1, ext4.wr W6, (V3.ext E4).other W6 (Or.inr (slot_ne (t := .array .byte) (t' := .byte) (Or.inr w4) (Or.inr w5) (by decide) (by decide) (by decide))), (C3.ext E4).same W6, (A3.ext E4).other W6 nb, c8n, by decide⟩
  have O6 : Old Z Z.heap.size h6 := (((hO.ext E1).wr W3 za).ext E4).wr W6 za
  obtain ⟨t, o, z1, z2⟩ := k h6 SS KK T6 ⟨T4.vm, k4, _, (fun q => nomatch q), X6, e6, hx, hZ4, hown4, hS4, by rw [W6.size]; exact hk4, hEL, hC.trans (hC3.trans (hC4.trans (CHr.wr W6 S4 hC4.1))), Fr.snoc X6 (Fr.snoc X3 hN za) za, O6⟩
  refine ⟨t, o, ?_, z2⟩
  refine XS.aloadN X.here hx rfl d8 hls rfl ?_
  refine st1 _ ?_
  refine st2 _ ?_
  refine st3 _ ?_
  refine XS.aloadN X3.here hx rfl d17 hls rfl ?_
  refine st4 _ ?_
  refine st5 _ ?_
  exact st6 _ z1
theorem pay_new (G : GH Z a0) (O : Old Z Z.heap.size h) {kC : ClassId} {d v0 c0 : Value} {N : Int32} {n Wd : Nat} (hx0 : Z.heap.size ≤ x) (E : Exa Z h x "java/lang/String") (V : Fld Z h x "java/lang/String" "value" "[B" v0) (C : Fld Z h x "java/lang/String" "coder" "B" c0) (K : Arv Z h b kC .char N (cs.map Value.int) d) (hn : cs.length = n) (hN : N = Int32.ofNat n) (l0 : 0 < n) (l2 : n ≤ 4000) (hp : ∀ c ∈ cs, C8 c) (hfr : 4 ≤ R.frames) (hlo : Wd + 65 ≤ R.locals) :
    Pay l R p e below Z (⟨"java/lang/String", "<init>", "([C)V"⟩ : MethodName) Wd #[.ref x, .ref b] h 1 n [x] (rno fun h' => Str Z h' x cs) := by
  intro s args hZ
  obtain ⟨z, hS, hz⟩ := cs_of G
  refine (StrChars.Road.backV (W := Wd) hZ (fun d hd => G.1 d ((by decide +kernel : ∀ d ∈ StrChars.Road.words, d ∈ tables_1) d hd)) (kI := 4) (wk G 3 rfl) hx0 O.2.1 E V C K (hS.ext O.2) hz hn hN l0 l2 hp rfl hfr hlo).mono (fun _ _ q => q) ?_
  rintro A a v B - ⟨L, ⟨rfl, q1, q2, q3, q4, t, kb, q5, q6, q7, q8, q9⟩, b1, b2, b3⟩
  subst hn hN
  exact ⟨L, ⟨⟨rfl, t, kb, q3, q8, q4, q9, hp, l2⟩, q1, q2⟩, b1, b2, b3⟩
theorem pay_len (G : GH Z a0) (O : Old Z Z.heap.size h) {n : Int32} {Wd : Nat} (S : Str Z h x cs) (hn : Int32.ofNat cs.length = n) (hfr : 2 ≤ R.frames) (hlo : Wd + 25 ≤ R.locals) :
    Pay l R p e below Z (⟨"java/lang/String", "length", "()I"⟩ : MethodName) Wd #[.ref x] h 0 0 [] (rvl fun v h' => .int n = v ∧ h = h') := by
  intro s args hZ
  obtain ⟨z, hS, hz⟩ := cs_of G
  obtain ⟨t, kb, q1, q2, q3, q4, q5, q6⟩ := S
  refine (StrChars.Road.lenW (W := Wd) hZ (fun d hd => G.1 d ((by decide +kernel : ∀ d ∈ StrChars.Road.wordsLen, d ∈ tables_1) d hd)) (kI := 4) (wk G 3 rfl) q1 q2 q3 q4 (StrChars.Road.codOf rfl fun c hc => (q5 c hc).2) (fun c hc => c8_up (q5 c hc)) (hS.ext O.2) hz q6 hfr hlo).mono (fun _ _ q => q) ?_
  rintro A a v B - ⟨L, ⟨rfl, rfl, e1⟩, b1, b2, b3⟩
  subst hn
  exact ⟨[], ⟨⟨_, rfl, rfl, e1.symm⟩, Fr.nil _, by rw [e1]; exact Keep.refl _ _⟩, b1, b2, b3⟩
theorem pay_chr (G : GH Z a0) (O : Old Z Z.heap.size h) {i : Nat} {j c : Int32} {Wd : Nat} (S : Str Z h x cs) (hj : j = Int32.ofNat i) (hi : i < cs.length) (hc : cs.getD i 0 = c) (hfr : 4 ≤ R.frames) (hlo : Wd + 53 ≤ R.locals) :
    Pay l R p e below Z (⟨"java/lang/String", "charAt", "(I)C"⟩ : MethodName) Wd #[.ref x, .int j] h 0 0 [] (rvl fun v h' => .int c = v ∧ h = h') := by
  intro s args hZ
  obtain ⟨z, hS, hz⟩ := cs_of G
  obtain ⟨fm, hF, rf⟩ := sf_of G
  obtain ⟨t, kb, q1, q2, q3, q4, q5, q6⟩ := S
  refine (StrChars.Road.chN (W := Wd) hZ (fun d hd => G.1 d ((by decide +kernel : ∀ d ∈ StrChars.Road.wordsChN, d ∈ tables_1) d hd)) (kI := 4) (wk G 3 rfl) q1 q2 q3 q4 (StrChars.Road.codOf rfl fun c hc => (q5 c hc).2) (fun c hc => c8_up (q5 c hc)) (hS.ext O.2) hz (hF.ext O.2) rf q6 hi hj hfr hlo).mono (fun _ _ q => q) ?_
  rintro A a v B - ⟨L, ⟨rfl, rfl, e1⟩, b1, b2, b3⟩
  subst hc
  exact ⟨[], ⟨⟨_, rfl, rfl, e1.symm⟩, Fr.nil _, by rw [e1]; exact Keep.refl _ _⟩, b1, b2, b3⟩
end OwnStr
def mag (p : Int32) : Nat := p.toInt.natAbs
def ndg (m : Nat) : Nat := if m < 10 then 1 else if m < 100 then 2 else if m < 1000 then 3 else if m < 10000 then 4 else if m < 100000 then 5 else if m < 1000000 then 6 else if m < 10000000 then 7 else if m < 100000000 then 8 else if m < 1000000000 then 9 else 10
def dch (m : Nat) : Int32 := Int32.ofNat (48 + m % 10)
def dgl (m : Nat) : Nat → List Int32
  | 0 => []
  | n + 1 => dgl (m / 10) n ++ [dch m]
def rep (p : Int32) : List Int32 := (if p < 0 then [(45 : Int32)] else []) ++ dgl (mag p) (ndg (mag p))
def ng (n : Nat) : Int32 := -(Int32.ofNat n)
theorem mag_le (p : Int32) : mag p ≤ 2147483648 := by
  have r := rng32 p
  unfold mag
  omega
theorem ofn_toInt {n : Nat} (q : n < 2147483648) : (Int32.ofNat n).toInt = n := len_toInt (n := n) q
theorem ng_toInt {n : Nat} (q : n ≤ 2147483648) : (ng n).toInt = -(n : Int) := by
  unfold ng
  rcases Nat.lt_or_eq_of_le q with q1 | q1
  · have r := c_ineg (Int32.ofNat n)
    have e := ofn_toInt q1
    have s := rng32 (-(Int32.ofNat n))
    omega
  · subst q1
    decide
theorem ng_neg {p : Int32} (q : p < 0) : p = ng (mag p) := by
  apply Int32.toInt_inj.mp
  rw [ng_toInt (mag_le p)]
  rw [Int32.lt_iff_toInt_lt] at q
  have e0 : (0 : Int32).toInt = 0 := by decide
  unfold mag
  omega
theorem ng_pos {p : Int32} (q : ¬ p < 0) : -p = ng (mag p) := by
  apply Int32.toInt_inj.mp
  rw [ng_toInt (mag_le p)]
  rw [Int32.lt_iff_toInt_lt] at q
  have e0 : (0 : Int32).toInt = 0 := by decide
  have r := c_ineg p
  have s := rng32 p
  have s2 := rng32 (-p)
  unfold mag
  omega
theorem ng_div {n : Nat} (q : n ≤ 2147483648) : ng n / (100 : Int32) = ng (n / 100) := by
  apply Int32.toInt_inj.mp
  have r := c_idiv (ng n) 100 100 (by decide) (by decide)
  rw [ng_toInt (Nat.le_trans (Nat.div_le_self _ _) q)]
  have e := ng_toInt q
  omega
theorem ng_rem {n : Nat} (q : n ≤ 2147483648) : ng (n / 100) * (100 : Int32) - ng n = Int32.ofNat (n % 100) := by
  apply Int32.toInt_inj.mp
  rw [ofn_toInt (Nat.lt_trans (Nat.mod_lt _ (by decide)) (by decide))]
  have e := ng_toInt q
  have e1 := ng_toInt (n := n / 100) (Nat.le_trans (Nat.div_le_self _ _) q)
  have r1 := c_imul (ng (n / 100)) 100
  have r2 := c_isub (ng (n / 100) * (100 : Int32)) (ng n)
  have e100 : (100 : Int32).toInt = 100 := by decide
  have s1 := rng32 (ng (n / 100) * (100 : Int32))
  have s2 := rng32 (ng (n / 100) * (100 : Int32) - ng n)
  rw [e1, e100] at r1
  omega
theorem ng_ng {n : Nat} (q : n < 100) : -(ng n) = Int32.ofNat n := by
  apply Int32.toInt_inj.mp
  rw [ofn_toInt (Nat.lt_trans q (by decide))]
  have e := ng_toInt (n := n) (by omega)
  have r := c_ineg (ng n)
  have s := rng32 (-(ng n))
  omega
theorem ng_le {n k : Nat} (q : n ≤ 2147483648) (qk : k ≤ 2147483648) {c : Int32} (hc : c = ng k) : (c < ng n) ↔ n < k := by
  subst hc
  rw [Int32.lt_iff_toInt_lt, ng_toInt q, ng_toInt qk]
  omega
theorem ng_lt {n k : Nat} (q : n ≤ 2147483648) (qk : k ≤ 2147483648) {c : Int32} (hc : c = ng k) : (ng n < c) ↔ k < n := by
  subst hc
  rw [Int32.lt_iff_toInt_lt, ng_toInt q, ng_toInt qk]
  omega
theorem dgl_len (m n : Nat) : (dgl m n).length = n := by
  induction n generalizing m with
  | zero => rfl
  | succ n ih => show (dgl (m / 10) n ++ [dch m]).length = n + 1; rw [List.length_append, ih]; rfl
theorem ndg_b (m : Nat) : 1 ≤ ndg m ∧ ndg m ≤ 10 := by
  unfold ndg
  repeat' split
  all_goals decide
theorem rep_len (p : Int32) : (rep p).length = (if p < 0 then 1 else 0) + ndg (mag p) := by
  unfold rep
  rw [List.length_append, dgl_len]
  split <;> rfl
theorem dch_c8 (m : Nat) : C8 (dch m) := by
  have h : (dch m).toInt = 48 + m % 10 := by
    unfold dch
    rw [ofn_toInt (by omega)]
    omega
  have e0 : (0 : Int32).toInt = 0 := by decide
  have e1 : (255 : Int32).toInt = 255 := by decide
  constructor <;> (intro r; rw [Int32.lt_iff_toInt_lt] at r; omega)
theorem dgl_c8 (m n : Nat) : ∀ c ∈ dgl m n, C8 c := by
  induction n generalizing m with
  | zero => intro c hc; exact nomatch hc
  | succ n ih =>
    intro c hc
    rcases List.mem_append.mp (show c ∈ dgl (m / 10) n ++ [dch m] from hc) with h | h
    · exact ih _ c h
    · rw [List.mem_singleton.mp h]; exact dch_c8 m
theorem rep_c8 (p : Int32) : ∀ c ∈ rep p, C8 c := by
  intro c hc
  rcases List.mem_append.mp (show c ∈ (if p < 0 then [(45 : Int32)] else []) ++ dgl (mag p) (ndg (mag p)) from hc) with h | h
  · split at h
    · rw [List.mem_singleton.mp h]; decide
    · exact nomatch h
  · exact dgl_c8 _ _ c h
theorem dch_i8 (m : Nat) : (dch m).toInt8.toInt32 = dch m := by
  have h : (dch m).toInt = 48 + m % 10 := by
    unfold dch
    rw [ofn_toInt (by omega)]
    omega
  have r := c_i2b (dch m)
  apply Int32.toInt_inj.mp
  omega
theorem len_lt {args : Array Value} {first s : State} {o : Option Outcome} {idx : List Nat} {t : Term} {y : Addr} {cl : Cell} {n : Int32} (ht : t.eval args first o idx s = some (.ref y)) (ha : s.arrayAt? y = some cl) (q : (Term.length t).eval args first o idx s = some (.int n)) : cl.slots.size < 2 ^ 31 ∧ cl.slots.size.toInt32 = n := by
  by_cases r : cl.slots.size < 2 ^ 31
  · rw [len_f ht ha r] at q
    cases q
    exact ⟨r, rfl⟩
  · simp [Term.eval, ht, ha, r] at q
theorem ng_div2 {n : Nat} (q : n ≤ 2147483648) : ng n / (100 : Int32) = ng (n / 10 / 10) := by
  rw [ng_div q, Nat.div_div_eq_div_mul]
theorem ng_rem2 {n : Nat} (q : n ≤ 2147483648) : ng (n / 10 / 10) * (100 : Int32) - ng n = Int32.ofNat (n % 100) := by
  rw [Nat.div_div_eq_div_mul]; exact ng_rem q
theorem ofn_clamp {n : Nat} (q : n < 2147483648) : (Int32.ofNat n).toNatClampNeg = n := by
  have e := ofn_toInt q
  simp only [Int32.toNatClampNeg]
  rw [e]; rfl
theorem ofn_nn {n : Nat} (q : n < 2147483648) : ¬ Int32.ofNat n < 0 := by
  rw [Int32.lt_iff_toInt_lt, ofn_toInt q]
  have e0 : (0 : Int32).toInt = 0 := by decide
  omega
theorem ofn_lt {n k : Nat} (q : n < 2147483648) (r : k < 2147483648) (h : n < k) : Int32.ofNat n < Int32.ofNat k := by
  rw [Int32.lt_iff_toInt_lt, ofn_toInt q, ofn_toInt r]
  omega
theorem ofn_dec {n : Nat} (q : n + 1 < 2147483648) : Int32.ofNat (n + 1) + Int32.ofInt (-1) = Int32.ofNat n := by
  apply Int32.toInt_inj.mp
  have r := c_iadd (Int32.ofNat (n + 1)) (Int32.ofInt (-1))
  have e1 := ofn_toInt q
  have e2 := ofn_toInt (n := n) (by omega)
  have e3 : (Int32.ofInt (-1)).toInt = -1 := by decide
  have s := rng32 (Int32.ofNat (n + 1) + Int32.ofInt (-1))
  omega
theorem ofn_add {n k : Nat} (q : n + k < 2147483648) : Int32.ofNat n + Int32.ofNat k = Int32.ofNat (n + k) := by
  apply Int32.toInt_inj.mp
  have r := c_iadd (Int32.ofNat n) (Int32.ofNat k)
  have e1 := ofn_toInt q
  have e2 := ofn_toInt (n := n) (by omega)
  have e3 := ofn_toInt (n := k) (by omega)
  have s := rng32 (Int32.ofNat n + Int32.ofNat k)
  omega
theorem ndg_c (m : Nat) : (ndg m = 1 ∧ m < 10) ∨ (ndg m = 2 ∧ 10 ≤ m ∧ m < 100) ∨ (ndg m = 3 ∧ 100 ≤ m ∧ m < 1000) ∨ (ndg m = 4 ∧ 1000 ≤ m ∧ m < 10000) ∨ (ndg m = 5 ∧ 10000 ≤ m ∧ m < 100000) ∨ (ndg m = 6 ∧ 100000 ≤ m ∧ m < 1000000) ∨ (ndg m = 7 ∧ 1000000 ≤ m ∧ m < 10000000) ∨ (ndg m = 8 ∧ 10000000 ≤ m ∧ m < 100000000) ∨ (ndg m = 9 ∧ 100000000 ≤ m ∧ m < 1000000000) ∨ (ndg m = 10 ∧ 1000000000 ≤ m) := by
  unfold ndg
  by_cases h1 : m < 10
  · rw [if_pos h1]; exact Or.inl ⟨rfl, h1⟩
  rw [if_neg h1]
  by_cases h2 : m < 100
  · rw [if_pos h2]; exact Or.inr (Or.inl ⟨rfl, by omega, h2⟩)
  rw [if_neg h2]
  by_cases h3 : m < 1000
  · rw [if_pos h3]; exact Or.inr (Or.inr (Or.inl ⟨rfl, by omega, h3⟩))
  rw [if_neg h3]
  by_cases h4 : m < 10000
  · rw [if_pos h4]; exact Or.inr (Or.inr (Or.inr (Or.inl ⟨rfl, by omega, h4⟩)))
  rw [if_neg h4]
  by_cases h5 : m < 100000
  · rw [if_pos h5]; exact Or.inr (Or.inr (Or.inr (Or.inr (Or.inl ⟨rfl, by omega, h5⟩))))
  rw [if_neg h5]
  by_cases h6 : m < 1000000
  · rw [if_pos h6]; exact Or.inr (Or.inr (Or.inr (Or.inr (Or.inr (Or.inl ⟨rfl, by omega, h6⟩)))))
  rw [if_neg h6]
  by_cases h7 : m < 10000000
  · rw [if_pos h7]; exact Or.inr (Or.inr (Or.inr (Or.inr (Or.inr (Or.inr (Or.inl ⟨rfl, by omega, h7⟩))))))
  rw [if_neg h7]
  by_cases h8 : m < 100000000
  · rw [if_pos h8]; exact Or.inr (Or.inr (Or.inr (Or.inr (Or.inr (Or.inr (Or.inr (Or.inl ⟨rfl, by omega, h8⟩)))))))
  rw [if_neg h8]
  by_cases h9 : m < 1000000000
  · rw [if_pos h9]; exact Or.inr (Or.inr (Or.inr (Or.inr (Or.inr (Or.inr (Or.inr (Or.inr (Or.inl ⟨rfl, by omega, h9⟩))))))))
  rw [if_neg h9]
  exact Or.inr (Or.inr (Or.inr (Or.inr (Or.inr (Or.inr (Or.inr (Or.inr (Or.inr ⟨rfl, by omega⟩))))))))
theorem nd_of {m k : Nat} (lo : 10 ^ (k - 1) ≤ m ∨ k = 1) (hi : m < 10 ^ k ∨ k = 10) (h1 : 1 ≤ k) (h10 : k ≤ 10) : ndg m = k := by
  have c := ndg_c m
  have : k = 1 ∨ k = 2 ∨ k = 3 ∨ k = 4 ∨ k = 5 ∨ k = 6 ∨ k = 7 ∨ k = 8 ∨ k = 9 ∨ k = 10 := by omega
  rcases this with rfl | rfl | rfl | rfl | rfl | rfl | rfl | rfl | rfl | rfl <;> simp at lo hi <;> omega
theorem thr_n {p c : Int32} (q : p < 0) {k : Nat} (hc : c = ng k) (qk : k ≤ 2147483648) : c < p ↔ mag p < k := by
  have e := ng_neg q
  have r := ng_le (mag_le p) qk hc
  rw [← e] at r
  exact r
theorem thr_p {p c : Int32} (q : ¬ p < 0) {k : Nat} (hc : c = ng k) (qk : k ≤ 2147483648) : c < -p ↔ mag p < k := by
  have e := ng_pos q
  have r := ng_le (mag_le p) qk hc
  rw [← e] at r
  exact r
theorem sz_n {p : Int32} (q : p < 0) {k : Nat} (h : ndg (mag p) = k) {r : Int32} (hr : r = Int32.ofNat (1 + k)) : r = Int32.ofNat (rep p).length := by
  rw [rep_len, if_pos q, h]; exact hr
theorem sz_p {p : Int32} (q : ¬ p < 0) {k : Nat} (h : ndg (mag p) = k) {r : Int32} (hr : r = Int32.ofNat (0 + k)) : r = Int32.ofNat (rep p).length := by
  rw [rep_len, if_neg q, h]; exact hr
theorem rl_n {p : Int32} (q : p < 0) {k n : Nat} (h : ndg (mag p) = k) (hL : 1 + k = n) : (rep p).length = n := by rw [rep_len, if_pos q, h]; exact hL
theorem rl_p {p : Int32} (q : ¬ p < 0) {k n : Nat} (h : ndg (mag p) = k) (hL : k = n) : (rep p).length = n := by rw [rep_len, if_neg q, h, Nat.zero_add]; exact hL
theorem rep_b (p : Int32) : 1 ≤ (rep p).length ∧ (rep p).length ≤ 11 := by
  have b := ndg_b (mag p)
  rw [rep_len]
  split <;> omega
def tk (L : List Value) (i : Nat) (W : List Value) (e : Nat) : List Value := L.take i ++ W ++ L.drop e
theorem tk_start {L : List Value} {i : Nat} : tk L i [] i = L := by unfold tk; rw [List.append_nil, List.take_append_drop]
theorem tk_len {L W : List Value} {i e : Nat} (hW : i + W.length = e) (he : e ≤ L.length) : (tk L i W e).length = L.length := by
  unfold tk
  rw [List.length_append, List.length_append, List.length_take, List.length_drop]
  omega
theorem tk_set {L W : List Value} {i e : Nat} {v : Value} (hW : i + 1 + W.length = e) (he : e ≤ L.length) : (tk L (i + 1) W e).set i v = tk L i (v :: W) e := by
  unfold tk
  have hi : i < L.length := by omega
  have h1 : L.take (i + 1) = L.take i ++ [L[i]] := by rw [List.take_add_one, List.getElem?_eq_getElem hi]; rfl
  rw [h1]
  have h2 : (L.take i).length = i := by rw [List.length_take]; omega
  rw [List.append_assoc, List.append_assoc, List.set_append_right _ _ (by omega), h2, Nat.sub_self]
  simp
theorem rep_n {p : Int32} (q : p < 0) {k : Nat} (h : ndg (mag p) = k) : rep p = (45 : Int32) :: dgl (mag p) k := by
  unfold rep; rw [if_pos q, h]; rfl
theorem rep_p {p : Int32} (q : ¬ p < 0) {k : Nat} (h : ndg (mag p) = k) : rep p = dgl (mag p) k := by
  unfold rep; rw [if_neg q, h]; rfl
theorem dgl_i8 (m n : Nat) : (dgl m n).map (fun c => c.toInt8.toInt32) = dgl m n := by
  induction n generalizing m with
  | zero => rfl
  | succ n ih =>
    show (dgl (m / 10) n ++ [dch m]).map _ = dgl (m / 10) n ++ [dch m]
    rw [List.map_append, ih]
    show _ ++ [(dch m).toInt8.toInt32] = _
    rw [dch_i8]
theorem rep_i8 (p : Int32) : (rep p).map (fun c => c.toInt8.toInt32) = rep p := by
  by_cases q : p < 0
  · rw [rep_n q rfl, List.map_cons, dgl_i8]; rfl
  · rw [rep_p q rfl, dgl_i8]
theorem tab_at {Z : State} {a0 : Array Value} (hf : Fit Z) {t : Term} {a : Addr} (et : ∀ idx, t.eval a0 Z none idx Z = some (.ref a)) (x1 : (Jvm.Cond.exactly t "[B").value a0 Z none Z [] = some true) (wA : (Jvm.Cond.arrayClass .byte).before a0 Z = true) (x4 : (Jvm.Cond.eq (.length t) (.int 100)).value a0 Z none Z [] = some true) {F : Term} (xa : (Jvm.Cond.all t (.eq (.elem t (.index 0)) F)).value a0 Z none Z [] = some true) {val : Nat → Int32} (hF : ∀ n, n < 100 → F.eval a0 Z none [n] Z = some (.int (val n))) {h : Heap} (O : Ext Z.heap h) :
    ∃ (k : ClassId) (vs : List Value), Arv Z h a k .byte (100 : Int32) vs (.int 0) ∧ ∀ n, n < 100 → vs.getD n (.int 0) = .int (val n) := by
  obtain ⟨cell, k, e1, e2, e3, e4, -⟩ := Exa.start (et []) x1
  obtain ⟨c2, k2, comp, g1, g2, g3⟩ := Cond.arrayClass_spec wA
  cases e2.symm.trans (show Z.vm.findClass "[B" = some c2 from g1)
  cases e3.symm.trans g2
  have q := eqv_i (Term.int_eval (100 : Int32)) x4
  obtain ⟨a2, cl, h1, h2, h3⟩ := Term.length_spec q
  cases (et []).symm.trans h1
  have hcl : cl = cell ∧ cell.vm ≠ .unknown := by
    unfold State.arrayAt? at h2
    rw [e1] at h2
    simp only [Option.bind_eq_bind, Option.bind_some, e3] at h2
    split at h2
    · cases h2
    · rename_i hh
      rw [g3] at h2
      cases h2
      exact ⟨rfl, fun z => hh (Or.inl z)⟩
  obtain ⟨rfl, hun⟩ := hcl
  have A : Arr Z Z.heap a cl .byte := ⟨e1, ⟨fun k' z => (by rw [z] at e4; cases e4), k, e3, comp, g3⟩, hun⟩
  obtain ⟨l1, l2⟩ := len_lt (et []) h2 q
  have S : cl.slots.size = 100 := by
    have z := len_toInt l1
    rw [l2] at z
    have z2 : (100 : Int32).toInt = 100 := by decide
    omega
  have at_ : ∀ n, n < 100 → cl.slots[n]? = some (.int (val n)) := fun n hn => by
    have u := Cond.all_elim (et []) h2 xa n (by omega)
    have e5 : (Nat.toInt32 n).toNatClampNeg = n := by simp only [Int32.toNatClampNeg, len_toInt (Nat.lt_trans (by omega : n < cl.slots.size) l1)]; rfl
    have nn : ¬ Nat.toInt32 n < 0 := by rw [Int32.lt_iff_toInt_lt, len_toInt (Nat.lt_trans (by omega : n < cl.slots.size) l1)]; have z0 : (0 : Int32).toInt = 0 := by decide
                                        omega
    have u2 := eqv_i (hF n hn) u
    have ix : (Term.index 0).eval a0 Z none [n] Z = some (.int (Nat.toInt32 n)) := by
      have z := idx_at (s := Z) (args := a0) (first := Z) (o := none) nn
      rw [e5] at z; exact z
    rw [elem_f (et _) ix h2 nn, e5] at u2
    exact u2
  refine ⟨cl.cls, cl.slots.toList, ⟨cl, A.ext O, rfl, by rw [S]; rfl, by decide, fun k hk => ?_, fun k hk => ?_⟩, fun n hn => ?_⟩
  · simp [Array.getElem?_eq_getElem hk, List.getD_eq_getElem?_getD]
  · have e5 : (Nat.toInt32 k).toNatClampNeg = k := by simp only [Int32.toNatClampNeg, len_toInt (Nat.lt_trans hk l1)]; rfl
    have z := at_ k (by omega)
    obtain ⟨v, h1, h2⟩ := elem_fit (j := Nat.toInt32 k) hf A (idx_in hk l1)
    rw [e5] at h1
    rw [show cl.slots.toList.getD k (.int 0) = v from by simp [List.getD_eq_getElem?_getD, h1]]
    exact h2
  · have z := at_ n hn
    simp [List.getD_eq_getElem?_getD, z]
theorem sel_priv {Z : State} {a0 : Array Value} {C : String} {y : MethodName} (w : (Jvm.Cond.selects C y y).before a0 Z = true) (wI : (Jvm.Cond.instanceMethod y).before a0 Z = true) (wP : (Jvm.Cond.privateMethod y).before a0 Z = true) (hy : y.cls ≠ "java/lang/invoke/MethodHandle" ∧ y.cls ≠ "java/lang/invoke/VarHandle") : (Jvm.Cond.selects y.cls y y).before a0 Z = true := by
  obtain ⟨c, r, m, h1, h2, h3, h4, mk, h5, h6⟩ := Cond.selects_spec w
  exact selects_self_of_private (findClass_of_methodNamed h3) h5 h6 (Cond.privateMethod_at wP) wI hy
theorem same_self {Z : State} {a0 : Array Value} {C : String} {y z : MethodName} (hz : z.cls = y.cls) (w : (Jvm.Cond.selects C z z).before a0 Z = true) (wI : (Jvm.Cond.instanceMethod y).before a0 Z = true) (hy : y.cls ≠ "java/lang/invoke/MethodHandle" ∧ y.cls ≠ "java/lang/invoke/VarHandle") : (Jvm.Cond.sameMethod y.cls y.cls y.name y.desc).before a0 Z = true := by
  obtain ⟨c, r, m, h1, h2, h3, h4, mk, h5, h6⟩ := Cond.selects_spec w
  obtain ⟨m2, meth, n1, n2, -, -⟩ := Cond.instanceMethod_spec wI
  have hc : Z.vm.findClass y.cls = some m.cls := by rw [← hz]; exact findClass_of_methodNamed h3
  have hf := State.methodFound?_of_named n1 hy
  have n3 : Z.methodNamed? ⟨y.cls, y.name, y.desc⟩ = some m2 := n1
  simp [Cond.before, Cond.holds, Cond.value, hc, hf, n3, h5, h6]
theorem rng_take {L : List Value} {d : Value} {n : Nat} (h : n ≤ L.length) : (List.range n).map (fun i => L.getD i d) = L.take n := by
  apply List.ext_getElem?
  intro i
  rw [List.getElem?_map, List.getElem?_take]
  by_cases hi : i < n
  · rw [List.getElem?_range hi, if_pos hi]
    simp [List.getD_eq_getElem?_getD, List.getElem?_eq_getElem (Nat.lt_of_lt_of_le hi h)]
  · rw [if_neg hi, List.getElem?_eq_none (by rw [List.length_range]; omega)]
    rfl
theorem ofn48 {n : Nat} (hn : n < 100) : (48 : Int32) + Nat.toInt32 n % (10 : Int32) = Int32.ofNat (48 + n % 10) := by
  apply Int32.toInt_inj.mp
  have e1 := len_toInt (n := n) (by omega)
  have r := (c_irem (Nat.toInt32 n) 10 10 (by decide)).1 (by rw [e1]; omega)
  have s := c_iadd 48 (Nat.toInt32 n % (10 : Int32))
  have e2 := ofn_toInt (n := 48 + n % 10) (by omega)
  have e3 : (48 : Int32).toInt = 48 := by decide
  have t := rng32 ((48 : Int32) + Nat.toInt32 n % (10 : Int32))
  omega
theorem ofn48d {n : Nat} (hn : n < 100) : (48 : Int32) + Nat.toInt32 n / (10 : Int32) = Int32.ofNat (48 + n / 10) := by
  apply Int32.toInt_inj.mp
  have e1 := len_toInt (n := n) (by omega)
  have r := (c_idiv (Nat.toInt32 n) 10 10 (by decide) (by decide)).1 (by rw [e1]; omega)
  have s := c_iadd 48 (Nat.toInt32 n / (10 : Int32))
  have e2 := ofn_toInt (n := 48 + n / 10) (by omega)
  have e3 : (48 : Int32).toInt = 48 := by decide
  have t := rng32 ((48 : Int32) + Nat.toInt32 n / (10 : Int32))
  omega
theorem ix_n {Z : State} {a0 : Array Value} {n : Nat} (hn : n < 100) : (Term.index 0).eval a0 Z none [n] Z = some (.int (Nat.toInt32 n)) := by
  have e5 : (Nat.toInt32 n).toNatClampNeg = n := by simp only [Int32.toNatClampNeg, len_toInt (by omega : n < 2 ^ 31)]; rfl
  have nn : ¬ Nat.toInt32 n < 0 := by
    rw [Int32.lt_iff_toInt_lt, len_toInt (by omega : n < 2 ^ 31)]
    have z0 : (0 : Int32).toInt = 0 := by decide
    omega
  have z := idx_at (s := Z) (args := a0) (first := Z) (o := none) nn
  rw [e5] at z; exact z
def s_DO (Z : State) : Addr := (((Term.static "java/lang/Integer" "DigitOnes" "[B").eval #[] Z none [] Z).bind refO).getD 0
def s_DT (Z : State) : Addr := (((Term.static "java/lang/Integer" "DigitTens" "[B").eval #[] Z none [] Z).bind refO).getD 0
theorem ev_DO {Z : State} {a0 : Array Value} (G : GH Z a0) : (Term.static "java/lang/Integer" "DigitOnes" "[B").eval a0 Z none [] Z = some (.ref (s_DO Z)) := by
  obtain ⟨a, ea⟩ := exa_v (Cond.before_iff.mp (jk G 12 rfl))
  have r : s_DO Z = a := by
    unfold s_DO
    rw [show (Term.static "java/lang/Integer" "DigitOnes" "[B").eval #[] Z none [] Z = some (.ref a) from ea]
    rfl
  rw [r]; exact ea
theorem ev_DT {Z : State} {a0 : Array Value} (G : GH Z a0) : (Term.static "java/lang/Integer" "DigitTens" "[B").eval a0 Z none [] Z = some (.ref (s_DT Z)) := by
  obtain ⟨a, ea⟩ := exa_v (Cond.before_iff.mp (jk G 17 rfl))
  have r : s_DT Z = a := by
    unfold s_DT
    rw [show (Term.static "java/lang/Integer" "DigitTens" "[B").eval #[] Z none [] Z = some (.ref a) from ea]
    rfl
  rw [r]; exact ea
theorem st_DO {Z : State} {a0 : Array Value} (G : GH Z a0) : Sta Z Z.heap "java/lang/Integer" "DigitOnes" "[B" (.ref (s_DO Z)) := Sta.start (ev_DO G) (Or.inl (jk G 11 rfl))
theorem st_DT {Z : State} {a0 : Array Value} (G : GH Z a0) : Sta Z Z.heap "java/lang/Integer" "DigitTens" "[B" (.ref (s_DT Z)) := Sta.start (ev_DT G) (Or.inl (jk G 16 rfl))
theorem do_at {Z : State} {a0 : Array Value} (G : GH Z a0) {h : Heap} (O : Old Z Z.heap.size h) : ∃ (k : ClassId) (vs : List Value), Arv Z h (s_DO Z) k .byte (100 : Int32) vs (.int 0) ∧ ∀ n, n < 100 → vs.getD n (.int 0) = .int (Int32.ofNat (48 + n % 10)) :=
  tab_at G.2.2.2.2 (fun _ => ev_DO G) (Cond.before_iff.mp (jk G 12 rfl)) (wk G 20 rfl) (Cond.before_iff.mp (jk G 13 rfl)) (Cond.before_iff.mp (jk G 14 rfl)) (fun n hn => by
    rw [← ofn48 hn]
    exact Term.add_int (Term.int_eval 48) (rem_f (ix_n hn) (Term.int_eval 10) (by decide))) O.2
theorem dt_at {Z : State} {a0 : Array Value} (G : GH Z a0) {h : Heap} (O : Old Z Z.heap.size h) : ∃ (k : ClassId) (vs : List Value), Arv Z h (s_DT Z) k .byte (100 : Int32) vs (.int 0) ∧ ∀ n, n < 100 → vs.getD n (.int 0) = .int (Int32.ofNat (48 + n / 10)) :=
  tab_at G.2.2.2.2 (fun _ => ev_DT G) (Cond.before_iff.mp (jk G 17 rfl)) (wk G 20 rfl) (Cond.before_iff.mp (jk G 18 rfl)) (Cond.before_iff.mp (jk G 19 rfl)) (fun n hn => by
    rw [← ofn48d hn]
    exact Term.add_int (Term.int_eval 48) (div_f (ix_n hn) (Term.int_eval 10) (by decide))) O.2
section OwnDig
variable {W : Bool} {EL : List (String × Nat)} {Z : State} {a0 : Array Value} {own : String} {p : Program} {l : Launch} {e : Env} {R : Room} {s : State} {m : MethodId} {args : Array Value} {below : List Frame} {meth : Method} {c : Code} {F : Outcome → State → Prop} {h : Heap} {cells slots cells' slots' : Nat} {pc pc' : Nat} {ls ls' : Array Slot} {st : List Value}
variable (pc')
theorem go_eqf {g g' : JFrame} (e0 : g = g') (k : Go W EL Z a0 own p l e R s m args below meth c F h cells slots (g')) : Go W EL Z a0 own p l e R s m args below meth c F h cells slots (g) := by rw [e0]; exact k
theorem go_stT {a : Addr} {kA : ClassId} {L Wl : List Value} {i n : Nat} {x x' : Int32} (hE : EL = []) (A : Arv Z h a kA .byte (16 : Int32) (tk L (i + 1) Wl n) (.int 0)) (hL : L.length = 16) (hW : i + 1 + Wl.length = n) (he : n ≤ 16) (ha : Z.heap.size ≤ a) (hx' : x.toInt8.toInt32 = x') (hd : decode c.code pc = .ok (.bastore, 1)) (hp : pc + 1 = pc')
    (k : ∀ h', Wr h h' a i (.int x') → Arv Z h' a kA .byte (16 : Int32) (tk L i (.int x' :: Wl) n) (.int 0) → Go W EL Z a0 own p l e R s m args below meth c F h' cells slots (mkF m pc' ls st)) : Go W EL Z a0 own p l e R s m args below meth c F h cells slots (mkF m pc ls (.int x :: .int (Int32.ofNat i) :: .ref a :: st)) :=
  go_stB pc' hE A ha (ofn_nn (by omega)) (show Int32.ofNat i < (16 : Int32) from ofn_lt (k := 16) (by omega) (by decide) (by omega)) (ofn_clamp (by omega)) (by rw [tk_len hW (by omega), hL]; omega) hx' (tk_set hW (by omega)) hd hp k
theorem go_tabO (G : GH Z a0) {n : Nat} {v : Int32} (hn : n < 100) (hv : Int32.ofNat (48 + n % 10) = v) (hd : decode c.code pc = .ok (.baload, 1)) (hp : pc + 1 = pc') (k : Go W EL Z a0 own p l e R s m args below meth c F h cells slots (mkF m pc' ls (.int v :: st))) : Go W EL Z a0 own p l e R s m args below meth c F h cells slots (mkF m pc ls (.int (Int32.ofNat n) :: .ref (s_DO Z) :: st)) := by
  refine go_old (fun O => ?_)
  obtain ⟨kA, vs, A, hvs⟩ := do_at G O
  exact go_baload pc' A (ofn_nn (by omega)) (show Int32.ofNat n < (100 : Int32) from ofn_lt (k := 100) (by omega) (by decide) (by omega)) (ofn_clamp (by omega)) (by rw [hvs n hn, hv]) hd hp k
theorem go_tabT (G : GH Z a0) {n : Nat} {v : Int32} (hn : n < 100) (hv : Int32.ofNat (48 + n / 10) = v) (hd : decode c.code pc = .ok (.baload, 1)) (hp : pc + 1 = pc') (k : Go W EL Z a0 own p l e R s m args below meth c F h cells slots (mkF m pc' ls (.int v :: st))) : Go W EL Z a0 own p l e R s m args below meth c F h cells slots (mkF m pc ls (.int (Int32.ofNat n) :: .ref (s_DT Z) :: st)) := by
  refine go_old (fun O => ?_)
  obtain ⟨kA, vs, A, hvs⟩ := dt_at G O
  exact go_baload pc' A (ofn_nn (by omega)) (show Int32.ofNat n < (100 : Int32) from ofn_lt (k := 100) (by omega) (by decide) (by omega)) (ofn_clamp (by omega)) (by rw [hvs n hn, hv]) hd hp k
theorem go_newPL {n cap : Nat} (w : (Jvm.Cond.arrayClass .byte).before a0 Z = true) (hn : n ≤ cap) (hn2 : n < 2147483648) (hb : cap * 8 ≤ 536870912) (hd : decode c.code pc = .ok (.newarray .byte, 2)) (hp : pc + 2 = pc') (hcl : cells + 1 = cells') (hsl : slots + cap = slots') (hc : cells' ≤ R.cells) (hl : slots' ≤ R.slots)
    (k : ∀ (h' : Heap) (a : Addr) (kA : ClassId), h.size = a → Ext h h' → Arv Z h' a kA .byte (Int32.ofNat n) (List.replicate n (.int 0)) (.int 0) → Go W EL Z a0 own p l e R s m args below meth c F h' cells' slots' (mkF m pc' ls (.ref a :: st))) : Go W EL Z a0 own p l e R s m args below meth c F h cells slots (mkF m pc ls (.int (Int32.ofNat n) :: st)) := by
  subst hp hcl hsl
  intro T P
  obtain ⟨vm0, k0, locs, hWf, X, eT, hx, hZ, hown, hS, hk, hEL, hC, hN, hO⟩ := P
  obtain ⟨T', h', kA, X', e', E', A', st'⟩ := newP X hx hZ (aty := .byte) w eT (g := mkF m pc ls (.int (Int32.ofNat n) :: st)) rfl hd rfl (ofn_nn hn2) (cap := cap) (by rw [ofn_clamp hn2]; exact hn) hb hc hl
  have V : Arv Z h' h.size kA .byte (Int32.ofNat n) (List.replicate n (.int 0)) (.int 0) := by
    exact (Arv.new A' (ofn_nn hn2)).pad (pad_rep [] (defaultValue .byte) n)
  obtain ⟨t, o, h1, h2⟩ := k h' h.size kA rfl E' V T' ⟨vm0, k0, _, hWf, X', e', hx, hZ, hown, hS, Nat.le_trans hk E'.1, hEL, hC.trans (CHr.ext E' hC.1), hN, hO.ext E'⟩
  exact ⟨t, o, st' _ h1, h2⟩
theorem go_acS {a b : Addr} {kA kB : ClassId} {n : Nat} {L : List Value} {index Wd : Nat} (w1 : (Jvm.Cond.methodLink own index Jvm.Stand.acN).before a0 Z = true) (w2 : (Jvm.Cond.native Jvm.Stand.acN).before a0 Z = true) (w3 : (Jvm.Cond.static Jvm.Stand.acN).before a0 Z = true) (w4 : (Jvm.Cond.initialized "java/lang/System").before a0 Z = true) (hE : EL = []) (A : Arv Z h a kA .byte (16 : Int32) L (.int 0)) (hL : L.length = 16) (hn : n ≤ 16) (B : Arv Z h b kB .byte (Int32.ofNat n) (List.replicate n (.int 0)) (.int 0)) (hb : Z.heap.size ≤ b)
    (hsize : ls.size = c.maxLocals) (hW : 2 * 0 + (st.map fun v => v.category).sum ≤ Wd) (hf : 1 ≤ R.frames) (hlo : Wd + 18 ≤ R.locals) (hd : decode c.code pc = .ok (.invokestatic index, 3)) (hp : pc + 3 = pc')
    (k : ∀ h', Keep h h' [b] → Arv Z h' b kB .byte (Int32.ofNat n) (L.take n) (.int 0) → Go W EL Z a0 own p l e R s m args below meth c F h' cells slots (mkF m pc' ls st)) : Go W EL Z a0 own p l e R s m args below meth c F h cells slots (mkF m pc ls (.int (Int32.ofNat n) :: .int (0 : Int32) :: .ref b :: .int (0 : Int32) :: .ref a :: st)) := by
  have cn : (Int32.ofNat n).toNatClampNeg = n := ofn_clamp (by omega)
  have c0 : (0 : Int32).toNatClampNeg = 0 := rfl
  have c16 : (16 : Int32).toNatClampNeg = 16 := rfl
  refine go_acopy pc' w1 w2 w3 w4 hE A B rfl (by decide) (by decide) (ofn_nn (by omega)) (by rw [cn, c0, c16]; omega) (by rw [cn, c0]; omega) (by rw [cn, c0, List.length_replicate]; omega) hb ?_ hsize hW hf hlo hd hp k
  rw [cn, c0, List.take_zero, List.nil_append, Nat.zero_add, List.drop_of_length_le (by rw [List.length_replicate]; exact Nat.le_refl _), List.append_nil]
  rw [show (fun i => L.getD (0 + i) (Value.int 0)) = fun i => L.getD i (Value.int 0) from by funext i; rw [Nat.zero_add]]
  exact rng_take (by omega)
end OwnDig
theorem ens_ok {n : Nat} (h : n ≤ 16) : ¬ (0 : Int32) < Int32.ofNat n - (16 : Int32) := by
  rw [Int32.lt_iff_toInt_lt]
  have e := ofn_toInt (n := n) (by omega)
  have r := c_isub (Int32.ofNat n) 16
  have e0 : (0 : Int32).toInt = 0 := by decide
  have e1 : (16 : Int32).toInt = 16 := by decide
  have s := rng32 (Int32.ofNat n - (16 : Int32))
  omega
theorem tk_take {L W : List Value} {n : Nat} (h : n ≤ L.length) : (tk L n W (n + W.length)).take (n + W.length) = L.take n ++ W := by
  unfold tk
  have e : (L.take n ++ W).length = n + W.length := by rw [List.length_append, List.length_take]; omega
  rw [← e, List.take_left']
  rfl
theorem mk_str {Z : State} {h : Heap} {a t : Addr} {k : ClassId} {L : List Value} {hs : List Int32} {p : Int32} (hL : L.take hs.length = (hs.map fun c => c.toInt8.toInt32).map Value.int) (E : Exa Z h a "java/lang/String") (Fv : Fld Z h a "java/lang/String" "value" "[B" (.ref t)) (Fc : Fld Z h a "java/lang/String" "coder" "B" (.int 0))
    (A : Arv Z h t k .byte (Int32.ofNat (hs.length + (rep p).length)) ((tk L hs.length ((rep p).map Value.int) (hs.length + (rep p).length)).take (hs.length + (rep p).length)) (.int 0)) (h16 : L.length = 16) (h3 : hs.length ≤ 3) (c8 : ∀ c ∈ hs, C8 c) : Str Z h a (hs ++ rep p) := by
  have b := rep_b p
  have e : (tk L hs.length ((rep p).map Value.int) (hs.length + (rep p).length)).take (hs.length + (rep p).length) = ((hs ++ rep p).map fun c => c.toInt8.toInt32).map Value.int := by
    have z := tk_take (L := L) (W := (rep p).map Value.int) (n := hs.length) (by omega)
    rw [List.length_map] at z
    rw [z, hL, List.map_append, List.map_append, rep_i8]
  rw [e] at A
  refine ⟨t, k, E, Fv, Fc, ?_, fun c hc => ?_, by rw [List.length_append]; omega⟩
  · rw [List.length_append]; exact A
  · rcases List.mem_append.mp hc with q | q
    · exact c8 c q
    · exact rep_c8 p c q
theorem tk16 {L : List Value} {n : Nat} {p : Int32} (hL : L.length = 16) (h : n ≤ 3) : (tk L n ((rep p).map Value.int) (n + (rep p).length)).length = 16 := by
  have b := rep_b p
  rw [tk_len (by rw [List.length_map]) (by omega), hL]
theorem ew16 {Z : State} {a0 : Array Value} (G : GH Z a0) : ∀ p ∈ EL1, ∃ text : String, (Jvm.Cond.stringLink p.1 p.2 text).before a0 Z = true ∧ 4 * text.toList.length < 16 := by
  intro p hp
  rcases List.mem_cons.mp hp with rfl | hp
  · exact ⟨_, wk G 112 rfl, by decide⟩
  · rcases List.mem_cons.mp hp with rfl | hp
    · exact ⟨_, wk G 222 rfl, by decide⟩
    · exact nomatch hp
theorem safe16 {Z : State} {a0 : Array Value} {vm : Vm} {h : Heap} {y : Addr} {k : ClassId} {vs : List Value} {dv : Value} (ew : ∀ p ∈ EL1, ∃ text : String, (Jvm.Cond.stringLink p.1 p.2 text).before a0 Z = true ∧ 4 * text.toList.length < 16) (hal : Z.vm.Alike vm) (A : Arv Z h y k .byte (16 : Int32) vs dv) : Safe Z EL1 vm h y := fun B => by
  obtain ⟨cl, ⟨A1, ⟨-, kA, hkA, compA, hkindA⟩, -⟩, -, S, -⟩ := A
  have S16 : cl.slots.size = 16 := S
  obtain ⟨kV, hkV, eV⟩ := hal.2.2 _ _ hkA
  obtain ⟨p, hp, u, a, hB, q, -, F, hx⟩ := B
  rcases hx with hx | hx
  · subst hx
    have e1 := (show h[q.sa]? = some q.sC from F.ha).symm.trans A1
    cases e1
    obtain ⟨cS, ⟨-, -, e⟩, ⟨kS, g1, g2, -⟩, -⟩ := F
    subst e
    have e2 : kS = kV := Option.some.inj ((show vm.classes[q.sC.cls]? = some kS from g1).symm.trans hkV)
    rw [e2, eV] at g2
    rw [show kA.kind = _ from hkindA] at g2
    cases g2
  · subst hx
    have e1 := (show h[q.sd]? = some q.SA from F.hd).symm.trans A1
    cases e1
    obtain ⟨cS, -, -, -, hsl⟩ := F
    obtain ⟨text, w, hl⟩ := ew p hp
    obtain ⟨c, kk, cf, i, b1, b2, b3, b4, b5, -⟩ := hB
    have b0 : Z.vm.findClass p.1 = some c := by rw [← hal.findClass]; exact b1
    obtain ⟨k0, cf0, i0, units, z1, z2, z3, z4, -, z6, -⟩ := Cond.stringLink_spec b0 w
    obtain ⟨k1, y1, y2⟩ := hal.2.2 _ _ z1
    obtain rfl : kk = k1 := Option.some.inj (b2.symm.trans y1)
    have c1 : k0.cf = some cf := by
      have z := b3
      rw [y2] at z
      exact z
    obtain rfl : cf = cf0 := Option.some.inj (c1.symm.trans z2)
    cases b4.symm.trans z3
    cases b5.symm.trans z4
    have sz := text_bytes_le z6
    rw [hsl] at S16
    omega
theorem rem3 (y : Int32) (q : 0 ≤ y.toInt) : y % (3 : Int32) = 0 ∨ y % (3 : Int32) = 1 ∨ y % (3 : Int32) = 2 := by
  have r := (c_irem y 3 3 (by decide)).1 q
  have e0 : (0 : Int32).toInt = 0 := by decide
  have e1 : (1 : Int32).toInt = 1 := by decide
  have e2 : (2 : Int32).toInt = 2 := by decide
  have : (y % (3 : Int32)).toInt = 0 ∨ (y % (3 : Int32)).toInt = 1 ∨ (y % (3 : Int32)).toInt = 2 := by omega
  rcases this with h | h | h
  · exact Or.inl (Int32.toInt_inj.mp (by rw [h, e0]))
  · exact Or.inr (Or.inl (Int32.toInt_inj.mp (by rw [h, e1])))
  · exact Or.inr (Or.inr (Int32.toInt_inj.mp (by rw [h, e2])))
theorem and_nn (y k : Int32) (q : 0 ≤ k.toInt) : 0 ≤ (y &&& k).toInt := (c_and y k q).1
def vabs (p : Int32) : Int64 := Int64.ofNat (mag p)
theorem vabs_toInt (p : Int32) : (vabs p).toInt = mag p := by
  have b := mag_le p
  unfold vabs
  exact Int64.toInt_ofNat_of_lt (by omega)
theorem vabs_n {p : Int32} (q : p.toInt64 < (0 : Int64)) : -(p.toInt64) = vabs p := by
  apply Int64.toInt_inj.mp
  rw [Int64.lt_iff_toInt_lt, c_i2l] at q
  have e0 : (0 : Int64).toInt = 0 := by decide
  have r := c_lneg p.toInt64
  have s := rng64 (-(p.toInt64))
  have t := rng32 p
  rw [c_i2l] at r
  rw [vabs_toInt]
  unfold mag
  omega
theorem vabs_p {p : Int32} (q : ¬ p.toInt64 < (0 : Int64)) : p.toInt64 = vabs p := by
  apply Int64.toInt_inj.mp
  rw [Int64.lt_iff_toInt_lt, c_i2l] at q
  have e0 : (0 : Int64).toInt = 0 := by decide
  rw [c_i2l, vabs_toInt]
  unfold mag
  omega
theorem sg_n {p : Int32} (q : p.toInt64 < (0 : Int64)) : p < 0 := by
  rw [Int64.lt_iff_toInt_lt, c_i2l] at q
  rw [Int32.lt_iff_toInt_lt]
  exact q
theorem sg_p {p : Int32} (q : ¬ p.toInt64 < (0 : Int64)) : ¬ p < 0 := by
  rw [Int64.lt_iff_toInt_lt, c_i2l] at q
  rw [Int32.lt_iff_toInt_lt]
  exact q
theorem thr_l {p : Int32} {c : Int64} {k : Nat} (hc : c.toInt = k) : vabs p < c ↔ mag p < k := by
  rw [Int64.lt_iff_toInt_lt, vabs_toInt, hc]
  omega
def p10 (n : Nat) : Int64 := ([1, 10, 100, 1000, 10000, 100000, 1000000, 10000000, 100000000, 1000000000] : List Int64).getD n 0
theorem p10_toInt {n : Nat} (h : n < 10) : (p10 n).toInt = ((10 ^ n : Nat) : Int) := by
  have : n = 0 ∨ n = 1 ∨ n = 2 ∨ n = 3 ∨ n = 4 ∨ n = 5 ∨ n = 6 ∨ n = 7 ∨ n = 8 ∨ n = 9 := by omega
  rcases this with rfl | rfl | rfl | rfl | rfl | rfl | rfl | rfl | rfl | rfl <;> decide
theorem p10_ne {n : Nat} (h : n < 10) : p10 n ≠ 0 := fun e => by
  have r := p10_toInt h
  rw [e] at r
  have p : 0 < 10 ^ n := Nat.pow_pos (by decide)
  have r2 : (0 : Int) = ((10 ^ n : Nat) : Int) := r
  have r3 : 0 = 10 ^ n := Int.ofNat_inj.mp r2
  rw [← r3] at p
  exact absurd p (by decide)
theorem p10_n1 {n : Nat} (h : n < 10) : p10 n ≠ -1 := fun e => by
  have r := p10_toInt h
  rw [e] at r
  have r2 : (-1 : Int) = ((10 ^ n : Nat) : Int) := r
  have p := Int.natCast_nonneg (10 ^ n)
  rw [← r2] at p
  exact absurd p (by decide)
theorem getD_long (l : List Int64) (n : Nat) : (l.map Value.long).getD n (.long 0) = .long (l.getD n 0) := by
  rw [List.getD_eq_getElem?_getD, List.getD_eq_getElem?_getD, List.getElem?_map]
  cases l[n]? <;> rfl
theorem l_dig {p : Int32} {n : Nat} (h : n < 10) : ((vabs p / p10 n) - ((vabs p / p10 n) / (10 : Int64)) * (10 : Int64)).toInt32 = Int32.ofNat (mag p / 10 ^ n % 10) := by
  have b := mag_le p
  have a := vabs_toInt p
  have q1 := (c_ldiv (vabs p) (p10 n) ((10 ^ n : Nat) : Int) (p10_toInt h) (p10_n1 h)).1 (by omega)
  rw [a, ← Int.natCast_ediv] at q1
  generalize hX : vabs p / p10 n = X at q1 ⊢
  have hN : mag p / 10 ^ n ≤ mag p := Nat.div_le_self _ _
  generalize mag p / 10 ^ n = N at q1 hN ⊢
  have q2 := (c_ldiv X 10 10 (by decide) (by decide)).1 (by omega)
  have q3 := c_lmul (X / (10 : Int64)) 10
  have e10 : (10 : Int64).toInt = 10 := by decide
  rw [e10] at q3
  have q4 := c_lsub X (X / (10 : Int64) * (10 : Int64))
  have q5 := c_l2i (X - X / (10 : Int64) * (10 : Int64))
  have r1 := rng64 (X / (10 : Int64) * (10 : Int64))
  have r2 := rng64 (X - X / (10 : Int64) * (10 : Int64))
  have r3 := rng32 (X - X / (10 : Int64) * (10 : Int64)).toInt32
  apply Int32.toInt_inj.mp
  rw [ofn_toInt (n := N % 10) (by omega)]
  omega
theorem dch_add (n : Nat) : (48 : Int32) + Int32.ofNat (n % 10) = dch n := ofn_add (n := 48) (k := n % 10) (by omega)
theorem dgl_get (m n j : Nat) (h : j < n) : (dgl m n)[j]? = some (dch (m / 10 ^ (n - 1 - j))) := by
  induction n generalizing m with
  | zero => omega
  | succ n ih =>
    show (dgl (m / 10) n ++ [dch m])[j]? = _
    by_cases hj : j < n
    · rw [List.getElem?_append_left (by rw [dgl_len]; exact hj), ih _ hj, Nat.div_div_eq_div_mul, show n + 1 - 1 - j = (n - 1 - j) + 1 by omega, Nat.pow_succ, Nat.mul_comm]
    · have : j = n := by omega
      subst this
      rw [List.getElem?_append_right (by rw [dgl_len]; exact Nat.le_refl _), dgl_len]
      simp
def dgt (cs : List Int32) (B : Nat) (p : Int32) : Prop := ∀ j, j < ndg (mag p) → cs[B + j]? = some (dch (mag p / 10 ^ (ndg (mag p) - 1 - j)))
theorem dgt_n {hs : List Int32} {p : Int32} {B : Nat} (q : p < 0) (hB : hs.length + 1 = B) : dgt (hs ++ rep p) B p := fun j hj => by
  subst hB
  rw [rep_n q rfl, List.getElem?_append_right (by omega), show hs.length + 1 + j - hs.length = j + 1 by omega, List.getElem?_cons_succ]
  exact dgl_get _ _ _ hj
theorem dgt_p {hs : List Int32} {p : Int32} {B : Nat} (q : ¬ p < 0) (hB : hs.length = B) : dgt (hs ++ rep p) B p := fun j hj => by
  subst hB
  rw [rep_p q rfl, List.getElem?_append_right (by omega), show hs.length + j - hs.length = j by omega]
  exact dgl_get _ _ _ hj
theorem len_n {hs : List Int32} {p : Int32} {B : Nat} (q : p < 0) (hB : hs.length + 1 = B) : Int32.ofNat (hs ++ rep p).length = Int32.ofNat (B + ndg (mag p)) := by
  rw [List.length_append, rep_len, if_pos q, ← hB, Nat.add_assoc]
theorem len_p {hs : List Int32} {p : Int32} {B : Nat} (q : ¬ p < 0) (hB : hs.length = B) : Int32.ofNat (hs ++ rep p).length = Int32.ofNat (B + ndg (mag p)) := by
  rw [List.length_append, rep_len, if_neg q, ← hB, Nat.zero_add]
theorem get_m {hs : List Int32} {p : Int32} (q : p < 0) : (hs ++ rep p)[hs.length]? = some (45 : Int32) := by
  rw [rep_n q rfl, List.getElem?_append_right (Nat.le_refl _), Nat.sub_self]
  rfl
theorem lt_app {hs : List Int32} {p : Int32} {i : Nat} (h : i < hs.length + 1) : i < (hs ++ rep p).length := by
  have b := rep_b p
  rw [List.length_append]
  omega
theorem ofn_sub {n k : Nat} (q : n < 2147483648) (h : k ≤ n) : Int32.ofNat n - Int32.ofNat k = Int32.ofNat (n - k) := by
  apply Int32.toInt_inj.mp
  have r := c_isub (Int32.ofNat n) (Int32.ofNat k)
  have e1 := ofn_toInt q
  have e2 := ofn_toInt (n := k) (by omega)
  have e3 := ofn_toInt (n := n - k) (by omega)
  have s := rng32 (Int32.ofNat n - Int32.ofNat k)
  omega
theorem ofn_ltn {n k : Nat} (q : n < 2147483648) (r : k < 2147483648) (h : Int32.ofNat n < Int32.ofNat k) : n < k := by
  rw [Int32.lt_iff_toInt_lt, ofn_toInt q, ofn_toInt r] at h
  omega
theorem lenN_n {hs : List Int32} {p : Int32} {B : Nat} (q : p < 0) (hB : hs.length + 1 = B) : (hs ++ rep p).length = B + ndg (mag p) := by
  rw [List.length_append, rep_len, if_pos q, ← hB, Nat.add_assoc]
theorem lenN_p {hs : List Int32} {p : Int32} {B : Nat} (q : ¬ p < 0) (hB : hs.length = B) : (hs ++ rep p).length = B + ndg (mag p) := by
  rw [List.length_append, rep_len, if_neg q, ← hB, Nat.zero_add]
theorem gd_of {cs : List Int32} {i : Nat} {d c : Int32} (h : cs[i]? = some c) : cs.getD i d = c := by
  rw [List.getD_eq_getElem?_getD, h]; rfl
section OwnDig2
variable {W : Bool} {EL : List (String × Nat)} {Z : State} {a0 : Array Value} {own : String} {p : Program} {l : Launch} {e : Env} {R : Room} {s : State} {m : MethodId} {args : Array Value} {below : List Frame} {meth : Method} {c : Code} {F : Outcome → State → Prop} {h : Heap} {cells slots cells' slots' : Nat} {pc pc' : Nat} {ls ls' : Array Slot} {st : List Value}
variable (pc')
theorem go_stJ {a : Addr} {kA : ClassId} {z j : Int32} {x : Int64} {vs vs' : List Value} {dv : Value} {i : Nat} (A : Arv Z h a kA .long z vs dv) (ha : Z.heap.size ≤ a) (hj0 : ¬ j < 0) (hjz : j < z) (hji : j.toNatClampNeg = i) (hi : i < vs.length) (hvs : vs.set i (.long x) = vs') (hd : decode c.code pc = .ok (.lastore, 1)) (hp : pc + 1 = pc')
    (k : ∀ h', Wr h h' a i (.long x) → Arv Z h' a kA .long z vs' dv → Go W EL Z a0 own p l e R s m args below meth c F h' cells slots (mkF m pc' ls st)) : Go W EL Z a0 own p l e R s m args below meth c F h cells slots (mkF m pc ls (.long x :: .int j :: .ref a :: st)) := by
  subst hp hvs hji
  intro T P
  obtain ⟨vm0, k0, locs, hWf, X, eT, hx, hZ, hown, hS, hk, hEL, hC, hN, hO⟩ := P
  obtain ⟨cl, Ar, q1, S1, N1, H1, G1⟩ := A
  obtain ⟨T', h', X', e', W', st'⟩ := stJ X hx hZ eT Ar (j := j) (inb_of S1 ⟨hj0, hjz⟩) (g := mkF m pc ls (.long x :: .int j :: .ref a :: st)) rfl rfl hd
  have S0 : Safe Z EL vm0 h a := Safe.arr hZ.alike Ar (by decide)
  obtain ⟨t, o, h1, h2⟩ := k h' W' (Arv.set Ar q1 S1 N1 H1 G1 rfl W' _ rfl hi) T' ⟨vm0, k0, _, hWf, X', e', hx, hZ, hown, hS, by rw [W'.size]; exact hk, hEL, hC.trans (CHr.wr W' S0 hC.1), Fr.snoc X' hN ha, hO.wr W' ha⟩
  exact ⟨t, o, st' _ h1, h2⟩
theorem go_laload {a : Addr} {kA : ClassId} {z j : Int32} {vs : List Value} {dv v : Value} {i : Nat} (A : Arv Z h a kA .long z vs dv) (hj0 : ¬ j < 0) (hjz : j < z) (hji : j.toNatClampNeg = i) (hv : vs.getD i dv = v) (hd : decode c.code pc = .ok (.laload, 1)) (hp : pc + 1 = pc')
    (k : Go W EL Z a0 own p l e R s m args below meth c F h cells slots (mkF m pc' ls (v :: st))) : Go W EL Z a0 own p l e R s m args below meth c F h cells slots (mkF m pc ls (.int j :: .ref a :: st)) := by
  subst hp hv hji
  intro T P
  obtain ⟨t, o, h1, h2⟩ := k T P
  obtain ⟨vm0, k0, locs, hWf, X, eT, hx, hZ, hown, hS, hk, hEL, hC, hN, hO⟩ := P
  obtain ⟨cl, Ar, q1, S1, N1, H1, G1⟩ := A
  have hin := inb_of S1 ⟨hj0, hjz⟩
  exact ⟨t, o, X.laload hx (by rw [eT]; exact Ar.1) (State.isArrayOf_alike hZ.alike Ar.2.1) Ar.2.2 hin (H1.at hin rfl) (g := mkF m pc ls (.int j :: .ref a :: st)) rfl rfl hd _ h1, h2⟩
end OwnDig2
set_option maxRecDepth 65536
set_option maxHeartbeats 40000000
theorem d1_0 : decode jdk_33_method_13_code 0 = .ok (.iconst 1, 1) := by decide +kernel
theorem d1_1 : decode jdk_33_method_13_code 1 = .ok (.istore_n 1, 1) := by decide +kernel
theorem d1_2 : decode jdk_33_method_13_code 2 = .ok (.iload_n 0, 1) := by decide +kernel
theorem d1_3 : decode jdk_33_method_13_code 3 = .ok (.ifCond .lt 8, 3) := by decide +kernel
theorem d1_11 : decode jdk_33_method_13_code 11 = .ok (.bipush (-10), 2) := by decide +kernel
theorem d1_13 : decode jdk_33_method_13_code 13 = .ok (.istore_n 2, 1) := by decide +kernel
theorem d1_14 : decode jdk_33_method_13_code 14 = .ok (.iconst 1, 1) := by decide +kernel
theorem d1_15 : decode jdk_33_method_13_code 15 = .ok (.istore_n 3, 1) := by decide +kernel
theorem d1_16 : decode jdk_33_method_13_code 16 = .ok (.iload_n 3, 1) := by decide +kernel
theorem d1_17 : decode jdk_33_method_13_code 17 = .ok (.bipush 10, 2) := by decide +kernel
theorem d1_19 : decode jdk_33_method_13_code 19 = .ok (.if_icmp .ge 23, 3) := by decide +kernel
theorem d1_22 : decode jdk_33_method_13_code 22 = .ok (.iload_n 0, 1) := by decide +kernel
theorem d1_23 : decode jdk_33_method_13_code 23 = .ok (.iload_n 2, 1) := by decide +kernel
theorem d1_24 : decode jdk_33_method_13_code 24 = .ok (.if_icmp .le 7, 3) := by decide +kernel
theorem d1_27 : decode jdk_33_method_13_code 27 = .ok (.iload_n 3, 1) := by decide +kernel
theorem d1_28 : decode jdk_33_method_13_code 28 = .ok (.iload_n 1, 1) := by decide +kernel
theorem d1_29 : decode jdk_33_method_13_code 29 = .ok (.iadd, 1) := by decide +kernel
theorem d1_30 : decode jdk_33_method_13_code 30 = .ok (.ireturn, 1) := by decide +kernel
theorem d1_31 : decode jdk_33_method_13_code 31 = .ok (.bipush 10, 2) := by decide +kernel
theorem d1_33 : decode jdk_33_method_13_code 33 = .ok (.iload_n 2, 1) := by decide +kernel
theorem d1_34 : decode jdk_33_method_13_code 34 = .ok (.imul, 1) := by decide +kernel
theorem d1_35 : decode jdk_33_method_13_code 35 = .ok (.istore_n 2, 1) := by decide +kernel
theorem d1_36 : decode jdk_33_method_13_code 36 = .ok (.iinc 3 1, 3) := by decide +kernel
theorem d1_39 : decode jdk_33_method_13_code 39 = .ok (.goto (-23), 3) := by decide +kernel
theorem d1_42 : decode jdk_33_method_13_code 42 = .ok (.bipush 10, 2) := by decide +kernel
theorem d1_44 : decode jdk_33_method_13_code 44 = .ok (.iload_n 1, 1) := by decide +kernel
theorem d1_45 : decode jdk_33_method_13_code 45 = .ok (.iadd, 1) := by decide +kernel
theorem d1_46 : decode jdk_33_method_13_code 46 = .ok (.ireturn, 1) := by decide +kernel
theorem d1_6 : decode jdk_33_method_13_code 6 = .ok (.iconst 0, 1) := by decide +kernel
theorem d1_7 : decode jdk_33_method_13_code 7 = .ok (.istore_n 1, 1) := by decide +kernel
theorem d1_8 : decode jdk_33_method_13_code 8 = .ok (.iload_n 0, 1) := by decide +kernel
theorem d1_9 : decode jdk_33_method_13_code 9 = .ok (.ineg, 1) := by decide +kernel
theorem d1_10 : decode jdk_33_method_13_code 10 = .ok (.istore_n 0, 1) := by decide +kernel
theorem pn1 : plainName "java/lang/Integer" = true := by first | (simp [plainName, overriddenIn]; done) | decide +kernel
theorem d2_0 : decode jdk_33_method_12_code 0 = .ok (.iload_n 1, 1) := by decide +kernel
theorem d2_1 : decode jdk_33_method_12_code 1 = .ok (.istore 5, 2) := by decide +kernel
theorem d2_3 : decode jdk_33_method_12_code 3 = .ok (.iload_n 0, 1) := by decide +kernel
theorem d2_4 : decode jdk_33_method_12_code 4 = .ok (.ifCond .ge 7, 3) := by decide +kernel
theorem d2_7 : decode jdk_33_method_12_code 7 = .ok (.iconst 1, 1) := by decide +kernel
theorem d2_8 : decode jdk_33_method_12_code 8 = .ok (.goto 4, 3) := by decide +kernel
theorem d2_12 : decode jdk_33_method_12_code 12 = .ok (.istore 6, 2) := by decide +kernel
theorem d2_14 : decode jdk_33_method_12_code 14 = .ok (.iload 6, 2) := by decide +kernel
theorem d2_16 : decode jdk_33_method_12_code 16 = .ok (.ifCond .ne 6, 3) := by decide +kernel
theorem d2_22 : decode jdk_33_method_12_code 22 = .ok (.iload_n 0, 1) := by decide +kernel
theorem d2_23 : decode jdk_33_method_12_code 23 = .ok (.bipush (-100), 2) := by decide +kernel
theorem d2_25 : decode jdk_33_method_12_code 25 = .ok (.if_icmp .gt 47, 3) := by decide +kernel
theorem d2_72 : decode jdk_33_method_12_code 72 = .ok (.aload_n 2, 1) := by decide +kernel
theorem d2_73 : decode jdk_33_method_12_code 73 = .ok (.iinc 5 (-1), 3) := by decide +kernel
theorem d2_76 : decode jdk_33_method_12_code 76 = .ok (.iload 5, 2) := by decide +kernel
theorem d2_78 : decode jdk_33_method_12_code 78 = .ok (.getstatic 83, 3) := by decide +kernel
theorem d2_81 : decode jdk_33_method_12_code 81 = .ok (.iload_n 0, 1) := by decide +kernel
theorem d2_82 : decode jdk_33_method_12_code 82 = .ok (.ineg, 1) := by decide +kernel
theorem d2_83 : decode jdk_33_method_12_code 83 = .ok (.baload, 1) := by decide +kernel
theorem d2_84 : decode jdk_33_method_12_code 84 = .ok (.bastore, 1) := by decide +kernel
theorem d2_85 : decode jdk_33_method_12_code 85 = .ok (.iload_n 0, 1) := by decide +kernel
theorem d2_86 : decode jdk_33_method_12_code 86 = .ok (.bipush (-9), 2) := by decide +kernel
theorem d2_88 : decode jdk_33_method_12_code 88 = .ok (.if_icmp .ge 16, 3) := by decide +kernel
theorem d2_104 : decode jdk_33_method_12_code 104 = .ok (.iload 6, 2) := by decide +kernel
theorem d2_106 : decode jdk_33_method_12_code 106 = .ok (.ifCond .eq 12, 3) := by decide +kernel
theorem d2_109 : decode jdk_33_method_12_code 109 = .ok (.aload_n 2, 1) := by decide +kernel
theorem d2_110 : decode jdk_33_method_12_code 110 = .ok (.iinc 5 (-1), 3) := by decide +kernel
theorem d2_113 : decode jdk_33_method_12_code 113 = .ok (.iload 5, 2) := by decide +kernel
theorem d2_115 : decode jdk_33_method_12_code 115 = .ok (.bipush 45, 2) := by decide +kernel
theorem d2_117 : decode jdk_33_method_12_code 117 = .ok (.bastore, 1) := by decide +kernel
theorem d2_118 : decode jdk_33_method_12_code 118 = .ok (.iload 5, 2) := by decide +kernel
theorem d2_120 : decode jdk_33_method_12_code 120 = .ok (.ireturn, 1) := by decide +kernel
theorem d2_91 : decode jdk_33_method_12_code 91 = .ok (.aload_n 2, 1) := by decide +kernel
theorem d2_92 : decode jdk_33_method_12_code 92 = .ok (.iinc 5 (-1), 3) := by decide +kernel
theorem d2_95 : decode jdk_33_method_12_code 95 = .ok (.iload 5, 2) := by decide +kernel
theorem d2_97 : decode jdk_33_method_12_code 97 = .ok (.getstatic 87, 3) := by decide +kernel
theorem d2_100 : decode jdk_33_method_12_code 100 = .ok (.iload_n 0, 1) := by decide +kernel
theorem d2_101 : decode jdk_33_method_12_code 101 = .ok (.ineg, 1) := by decide +kernel
theorem d2_102 : decode jdk_33_method_12_code 102 = .ok (.baload, 1) := by decide +kernel
theorem d2_103 : decode jdk_33_method_12_code 103 = .ok (.bastore, 1) := by decide +kernel
theorem d2_28 : decode jdk_33_method_12_code 28 = .ok (.iload_n 0, 1) := by decide +kernel
theorem d2_29 : decode jdk_33_method_12_code 29 = .ok (.bipush 100, 2) := by decide +kernel
theorem d2_31 : decode jdk_33_method_12_code 31 = .ok (.idiv, 1) := by decide +kernel
theorem d2_32 : decode jdk_33_method_12_code 32 = .ok (.istore_n 3, 1) := by decide +kernel
theorem d2_33 : decode jdk_33_method_12_code 33 = .ok (.iload_n 3, 1) := by decide +kernel
theorem d2_34 : decode jdk_33_method_12_code 34 = .ok (.bipush 100, 2) := by decide +kernel
theorem d2_36 : decode jdk_33_method_12_code 36 = .ok (.imul, 1) := by decide +kernel
theorem d2_37 : decode jdk_33_method_12_code 37 = .ok (.iload_n 0, 1) := by decide +kernel
theorem d2_38 : decode jdk_33_method_12_code 38 = .ok (.isub, 1) := by decide +kernel
theorem d2_39 : decode jdk_33_method_12_code 39 = .ok (.istore 4, 2) := by decide +kernel
theorem d2_41 : decode jdk_33_method_12_code 41 = .ok (.iload_n 3, 1) := by decide +kernel
theorem d2_42 : decode jdk_33_method_12_code 42 = .ok (.istore_n 0, 1) := by decide +kernel
theorem d2_43 : decode jdk_33_method_12_code 43 = .ok (.aload_n 2, 1) := by decide +kernel
theorem d2_44 : decode jdk_33_method_12_code 44 = .ok (.iinc 5 (-1), 3) := by decide +kernel
theorem d2_47 : decode jdk_33_method_12_code 47 = .ok (.iload 5, 2) := by decide +kernel
theorem d2_49 : decode jdk_33_method_12_code 49 = .ok (.getstatic 83, 3) := by decide +kernel
theorem d2_52 : decode jdk_33_method_12_code 52 = .ok (.iload 4, 2) := by decide +kernel
theorem d2_54 : decode jdk_33_method_12_code 54 = .ok (.baload, 1) := by decide +kernel
theorem d2_55 : decode jdk_33_method_12_code 55 = .ok (.bastore, 1) := by decide +kernel
theorem d2_56 : decode jdk_33_method_12_code 56 = .ok (.aload_n 2, 1) := by decide +kernel
theorem d2_57 : decode jdk_33_method_12_code 57 = .ok (.iinc 5 (-1), 3) := by decide +kernel
theorem d2_60 : decode jdk_33_method_12_code 60 = .ok (.iload 5, 2) := by decide +kernel
theorem d2_62 : decode jdk_33_method_12_code 62 = .ok (.getstatic 87, 3) := by decide +kernel
theorem d2_65 : decode jdk_33_method_12_code 65 = .ok (.iload 4, 2) := by decide +kernel
theorem d2_67 : decode jdk_33_method_12_code 67 = .ok (.baload, 1) := by decide +kernel
theorem d2_68 : decode jdk_33_method_12_code 68 = .ok (.bastore, 1) := by decide +kernel
theorem d2_69 : decode jdk_33_method_12_code 69 = .ok (.goto (-47), 3) := by decide +kernel
theorem d2_11 : decode jdk_33_method_12_code 11 = .ok (.iconst 0, 1) := by decide +kernel
theorem d2_19 : decode jdk_33_method_12_code 19 = .ok (.iload_n 0, 1) := by decide +kernel
theorem d2_20 : decode jdk_33_method_12_code 20 = .ok (.ineg, 1) := by decide +kernel
theorem d2_21 : decode jdk_33_method_12_code 21 = .ok (.istore_n 0, 1) := by decide +kernel
theorem d3_0 : decode jdk_68_method_2_code 0 = .ok (.aload_n 0, 1) := by decide +kernel
theorem d3_1 : decode jdk_68_method_2_code 1 = .ok (.invokespecial 3, 3) := by decide +kernel
theorem d3_4 : decode jdk_68_method_2_code 4 = .ok (.getstatic 18, 3) := by decide +kernel
theorem d3_7 : decode jdk_68_method_2_code 7 = .ok (.ifCond .eq 18, 3) := by decide +kernel
theorem d3_10 : decode jdk_68_method_2_code 10 = .ok (.aload_n 0, 1) := by decide +kernel
theorem d3_11 : decode jdk_68_method_2_code 11 = .ok (.iload_n 1, 1) := by decide +kernel
theorem d3_12 : decode jdk_68_method_2_code 12 = .ok (.newarray .byte, 2) := by decide +kernel
theorem d3_14 : decode jdk_68_method_2_code 14 = .ok (.putfield 15, 3) := by decide +kernel
theorem d3_17 : decode jdk_68_method_2_code 17 = .ok (.aload_n 0, 1) := by decide +kernel
theorem d3_18 : decode jdk_68_method_2_code 18 = .ok (.iconst 0, 1) := by decide +kernel
theorem d3_19 : decode jdk_68_method_2_code 19 = .ok (.putfield 22, 3) := by decide +kernel
theorem d3_22 : decode jdk_68_method_2_code 22 = .ok (.goto 16, 3) := by decide +kernel
theorem d3_38 : decode jdk_68_method_2_code 38 = .ok (.return_, 1) := by decide +kernel
theorem pn2 : plainName "java/lang/AbstractStringBuilder" = true := by first | (simp [plainName, overriddenIn]; done) | decide +kernel
theorem d4_0 : decode jdk_67_method_1_code 0 = .ok (.aload_n 0, 1) := by decide +kernel
theorem d4_1 : decode jdk_67_method_1_code 1 = .ok (.bipush 16, 2) := by decide +kernel
theorem pd1 : parseMethodDescriptor "(I)V" = some ⟨[.int], none⟩ := by decide +kernel
theorem d4_3 : decode jdk_67_method_1_code 3 = .ok (.invokespecial 1, 3) := by decide +kernel
theorem d4_6 : decode jdk_67_method_1_code 6 = .ok (.return_, 1) := by decide +kernel
theorem pn3 : plainName "java/lang/StringBuilder" = true := by first | (simp [plainName, overriddenIn]; done) | decide +kernel
theorem d5_0 : decode jdk_42_method_152_code 0 = .ok (.getstatic 38, 3) := by decide +kernel
theorem d5_3 : decode jdk_42_method_152_code 3 = .ok (.ifCond .eq 10, 3) := by decide +kernel
theorem d5_6 : decode jdk_42_method_152_code 6 = .ok (.aload_n 0, 1) := by decide +kernel
theorem d5_7 : decode jdk_42_method_152_code 7 = .ok (.getfield 15, 3) := by decide +kernel
theorem d5_10 : decode jdk_42_method_152_code 10 = .ok (.goto 4, 3) := by decide +kernel
theorem d5_14 : decode jdk_42_method_152_code 14 = .ok (.ireturn, 1) := by decide +kernel
theorem pn4 : plainName "java/lang/String" = true := by first | (simp [plainName, overriddenIn]; done) | decide +kernel
theorem d6_0 : decode jdk_68_method_68_code 0 = .ok (.getstatic 18, 3) := by decide +kernel
theorem d6_3 : decode jdk_68_method_68_code 3 = .ok (.ifCond .eq 14, 3) := by decide +kernel
theorem d6_6 : decode jdk_68_method_68_code 6 = .ok (.aload_n 0, 1) := by decide +kernel
theorem d6_7 : decode jdk_68_method_68_code 7 = .ok (.getfield 22, 3) := by decide +kernel
theorem d6_10 : decode jdk_68_method_68_code 10 = .ok (.ifCond .ne 7, 3) := by decide +kernel
theorem d6_13 : decode jdk_68_method_68_code 13 = .ok (.iconst 1, 1) := by decide +kernel
theorem d6_14 : decode jdk_68_method_68_code 14 = .ok (.goto 4, 3) := by decide +kernel
theorem d6_18 : decode jdk_68_method_68_code 18 = .ok (.ireturn, 1) := by decide +kernel
theorem d7_0 : decode jdk_68_method_9_code 0 = .ok (.aload_n 0, 1) := by decide +kernel
theorem d7_1 : decode jdk_68_method_9_code 1 = .ok (.getfield 15, 3) := by decide +kernel
theorem d7_4 : decode jdk_68_method_9_code 4 = .ok (.arraylength, 1) := by decide +kernel
theorem d7_5 : decode jdk_68_method_9_code 5 = .ok (.aload_n 0, 1) := by decide +kernel
theorem d7_6 : decode jdk_68_method_9_code 6 = .ok (.getfield 22, 3) := by decide +kernel
theorem d7_9 : decode jdk_68_method_9_code 9 = .ok (.ishr, 1) := by decide +kernel
theorem d7_10 : decode jdk_68_method_9_code 10 = .ok (.istore_n 2, 1) := by decide +kernel
theorem d7_11 : decode jdk_68_method_9_code 11 = .ok (.iload_n 1, 1) := by decide +kernel
theorem d7_12 : decode jdk_68_method_9_code 12 = .ok (.iload_n 2, 1) := by decide +kernel
theorem d7_13 : decode jdk_68_method_9_code 13 = .ok (.isub, 1) := by decide +kernel
theorem d7_14 : decode jdk_68_method_9_code 14 = .ok (.ifCond .le 24, 3) := by decide +kernel
theorem d7_38 : decode jdk_68_method_9_code 38 = .ok (.return_, 1) := by decide +kernel
theorem d8_0 : decode jdk_68_method_71_code 0 = .ok (.getstatic 18, 3) := by decide +kernel
theorem d8_3 : decode jdk_68_method_71_code 3 = .ok (.ifCond .eq 18, 3) := by decide +kernel
theorem d8_6 : decode jdk_68_method_71_code 6 = .ok (.aload_n 0, 1) := by decide +kernel
theorem d8_7 : decode jdk_68_method_71_code 7 = .ok (.getfield 22, 3) := by decide +kernel
theorem d8_10 : decode jdk_68_method_71_code 10 = .ok (.aload_n 1, 1) := by decide +kernel
theorem pd2 : parseMethodDescriptor "()B" = some ⟨[], some .byte⟩ := by decide +kernel
theorem d8_11 : decode jdk_68_method_71_code 11 = .ok (.invokevirtual 40, 3) := by decide +kernel
theorem d8_14 : decode jdk_68_method_71_code 14 = .ok (.if_icmp .eq 7, 3) := by decide +kernel
theorem d8_21 : decode jdk_68_method_71_code 21 = .ok (.return_, 1) := by decide +kernel
theorem d9_0 : decode jdk_68_method_64_code 0 = .ok (.aload_n 0, 1) := by decide +kernel
theorem d9_1 : decode jdk_68_method_64_code 1 = .ok (.getfield 15, 3) := by decide +kernel
theorem d9_4 : decode jdk_68_method_64_code 4 = .ok (.areturn, 1) := by decide +kernel
theorem d10_0 : decode jdk_68_method_6_code 0 = .ok (.aload_n 0, 1) := by decide +kernel
theorem d10_1 : decode jdk_68_method_6_code 1 = .ok (.getfield 79, 3) := by decide +kernel
theorem d10_4 : decode jdk_68_method_6_code 4 = .ok (.ireturn, 1) := by decide +kernel
theorem d11_0 : decode jdk_67_method_93_code 0 = .ok (.aload_n 0, 1) := by decide +kernel
theorem pd3 : parseMethodDescriptor "()I" = some ⟨[], some .int⟩ := by decide +kernel
theorem d11_1 : decode jdk_67_method_93_code 1 = .ok (.invokespecial 343, 3) := by decide +kernel
theorem d11_4 : decode jdk_67_method_93_code 4 = .ok (.ireturn, 1) := by decide +kernel
theorem d12_0 : decode jdk_65_method_131_code 0 = .ok (.iload_n 1, 1) := by decide +kernel
theorem d12_1 : decode jdk_65_method_131_code 1 = .ok (.iload_n 0, 1) := by decide +kernel
theorem d12_2 : decode jdk_65_method_131_code 2 = .ok (.if_icmp .ge 35, 3) := by decide +kernel
theorem d12_37 : decode jdk_65_method_131_code 37 = .ok (.return_, 1) := by decide +kernel
theorem pn5 : plainName "java/util/Arrays" = true := by first | (simp [plainName, overriddenIn]; done) | decide +kernel
theorem d13_0 : decode jdk_29_method_69_code 0 = .ok (.iload_n 0, 1) := by decide +kernel
theorem d13_1 : decode jdk_29_method_69_code 1 = .ok (.iload_n 1, 1) := by decide +kernel
theorem d13_2 : decode jdk_29_method_69_code 2 = .ok (.if_icmp .gt 7, 3) := by decide +kernel
theorem d13_9 : decode jdk_29_method_69_code 9 = .ok (.iload_n 1, 1) := by decide +kernel
theorem d13_10 : decode jdk_29_method_69_code 10 = .ok (.ireturn, 1) := by decide +kernel
theorem d14_0 : decode jdk_65_method_133_code 0 = .ok (.iload_n 1, 1) := by decide +kernel
theorem d14_1 : decode jdk_65_method_133_code 1 = .ok (.iload_n 2, 1) := by decide +kernel
theorem pd4 : parseMethodDescriptor "(II)V" = some ⟨[.int, .int], none⟩ := by decide +kernel
theorem d14_2 : decode jdk_65_method_133_code 2 = .ok (.invokestatic 343, 3) := by decide +kernel
theorem d14_5 : decode jdk_65_method_133_code 5 = .ok (.iload_n 2, 1) := by decide +kernel
theorem d14_6 : decode jdk_65_method_133_code 6 = .ok (.iload_n 1, 1) := by decide +kernel
theorem d14_7 : decode jdk_65_method_133_code 7 = .ok (.isub, 1) := by decide +kernel
theorem d14_8 : decode jdk_65_method_133_code 8 = .ok (.istore_n 3, 1) := by decide +kernel
theorem d14_9 : decode jdk_65_method_133_code 9 = .ok (.iload_n 3, 1) := by decide +kernel
theorem d14_10 : decode jdk_65_method_133_code 10 = .ok (.newarray .byte, 2) := by decide +kernel
theorem d14_12 : decode jdk_65_method_133_code 12 = .ok (.astore 4, 2) := by decide +kernel
theorem d14_14 : decode jdk_65_method_133_code 14 = .ok (.aload_n 0, 1) := by decide +kernel
theorem d14_15 : decode jdk_65_method_133_code 15 = .ok (.iload_n 1, 1) := by decide +kernel
theorem d14_16 : decode jdk_65_method_133_code 16 = .ok (.aload 4, 2) := by decide +kernel
theorem d14_18 : decode jdk_65_method_133_code 18 = .ok (.iconst 0, 1) := by decide +kernel
theorem d14_19 : decode jdk_65_method_133_code 19 = .ok (.aload_n 0, 1) := by decide +kernel
theorem d14_20 : decode jdk_65_method_133_code 20 = .ok (.arraylength, 1) := by decide +kernel
theorem d14_21 : decode jdk_65_method_133_code 21 = .ok (.iload_n 1, 1) := by decide +kernel
theorem d14_22 : decode jdk_65_method_133_code 22 = .ok (.isub, 1) := by decide +kernel
theorem d14_23 : decode jdk_65_method_133_code 23 = .ok (.iload_n 3, 1) := by decide +kernel
theorem pd5 : parseMethodDescriptor "(II)I" = some ⟨[.int, .int], some .int⟩ := by decide +kernel
theorem d14_24 : decode jdk_65_method_133_code 24 = .ok (.invokestatic 304, 3) := by decide +kernel
theorem d14_27 : decode jdk_65_method_133_code 27 = .ok (.invokestatic 150, 3) := by decide +kernel
theorem d14_30 : decode jdk_65_method_133_code 30 = .ok (.aload 4, 2) := by decide +kernel
theorem d14_32 : decode jdk_65_method_133_code 32 = .ok (.areturn, 1) := by decide +kernel
theorem d15_0 : decode jdk_65_method_132_code 0 = .ok (.iload_n 1, 1) := by decide +kernel
theorem d15_1 : decode jdk_65_method_132_code 1 = .ok (.ifCond .ne 9, 3) := by decide +kernel
theorem d15_4 : decode jdk_65_method_132_code 4 = .ok (.iload_n 2, 1) := by decide +kernel
theorem d15_5 : decode jdk_65_method_132_code 5 = .ok (.aload_n 0, 1) := by decide +kernel
theorem d15_6 : decode jdk_65_method_132_code 6 = .ok (.arraylength, 1) := by decide +kernel
theorem d15_7 : decode jdk_65_method_132_code 7 = .ok (.if_icmp .eq 10, 3) := by decide +kernel
theorem d15_10 : decode jdk_65_method_132_code 10 = .ok (.aload_n 0, 1) := by decide +kernel
theorem d15_11 : decode jdk_65_method_132_code 11 = .ok (.iload_n 1, 1) := by decide +kernel
theorem d15_12 : decode jdk_65_method_132_code 12 = .ok (.iload_n 2, 1) := by decide +kernel
theorem pd6 : parseMethodDescriptor "([BII)[B" = some ⟨[(.array .byte), .int, .int], some (.array .byte)⟩ := by decide +kernel
theorem d15_13 : decode jdk_65_method_132_code 13 = .ok (.invokestatic 339, 3) := by decide +kernel
theorem d15_16 : decode jdk_65_method_132_code 16 = .ok (.areturn, 1) := by decide +kernel
theorem d16_0 : decode jdk_42_method_150_code 0 = .ok (.aload_n 0, 1) := by decide +kernel
theorem d16_1 : decode jdk_42_method_150_code 1 = .ok (.invokespecial 1, 3) := by decide +kernel
theorem d16_4 : decode jdk_42_method_150_code 4 = .ok (.aload_n 1, 1) := by decide +kernel
theorem pd7 : parseMethodDescriptor "()[B" = some ⟨[], some (.array .byte)⟩ := by decide +kernel
theorem d16_5 : decode jdk_42_method_150_code 5 = .ok (.invokevirtual 552, 3) := by decide +kernel
theorem d16_8 : decode jdk_42_method_150_code 8 = .ok (.astore_n 3, 1) := by decide +kernel
theorem d16_9 : decode jdk_42_method_150_code 9 = .ok (.aload_n 1, 1) := by decide +kernel
theorem d16_10 : decode jdk_42_method_150_code 10 = .ok (.invokevirtual 549, 3) := by decide +kernel
theorem d16_13 : decode jdk_42_method_150_code 13 = .ok (.istore 4, 2) := by decide +kernel
theorem d16_15 : decode jdk_42_method_150_code 15 = .ok (.aload_n 1, 1) := by decide +kernel
theorem pd8 : parseMethodDescriptor "()Z" = some ⟨[], some .boolean⟩ := by decide +kernel
theorem d16_16 : decode jdk_42_method_150_code 16 = .ok (.invokevirtual 1047, 3) := by decide +kernel
theorem d16_19 : decode jdk_42_method_150_code 19 = .ok (.ifCond .eq 22, 3) := by decide +kernel
theorem d16_22 : decode jdk_42_method_150_code 22 = .ok (.aload_n 0, 1) := by decide +kernel
theorem d16_23 : decode jdk_42_method_150_code 23 = .ok (.iconst 0, 1) := by decide +kernel
theorem d16_24 : decode jdk_42_method_150_code 24 = .ok (.putfield 15, 3) := by decide +kernel
theorem d16_27 : decode jdk_42_method_150_code 27 = .ok (.aload_n 0, 1) := by decide +kernel
theorem d16_28 : decode jdk_42_method_150_code 28 = .ok (.aload_n 3, 1) := by decide +kernel
theorem d16_29 : decode jdk_42_method_150_code 29 = .ok (.iconst 0, 1) := by decide +kernel
theorem d16_30 : decode jdk_42_method_150_code 30 = .ok (.iload 4, 2) := by decide +kernel
theorem d16_32 : decode jdk_42_method_150_code 32 = .ok (.invokestatic 54, 3) := by decide +kernel
theorem d16_35 : decode jdk_42_method_150_code 35 = .ok (.putfield 9, 3) := by decide +kernel
theorem d16_38 : decode jdk_42_method_150_code 38 = .ok (.goto 59, 3) := by decide +kernel
theorem d16_97 : decode jdk_42_method_150_code 97 = .ok (.return_, 1) := by decide +kernel
theorem d17_0 : decode jdk_42_method_53_code 0 = .ok (.aload_n 0, 1) := by decide +kernel
theorem d17_1 : decode jdk_42_method_53_code 1 = .ok (.aload_n 1, 1) := by decide +kernel
theorem d17_2 : decode jdk_42_method_53_code 2 = .ok (.aconst_null, 1) := by decide +kernel
theorem pd9 : parseMethodDescriptor "(Ljava/lang/AbstractStringBuilder;Ljava/lang/Void;)V" = some ⟨[(.object "java/lang/AbstractStringBuilder"), (.object "java/lang/Void")], none⟩ := by decide +kernel
theorem d17_3 : decode jdk_42_method_53_code 3 = .ok (.invokespecial 489, 3) := by decide +kernel
theorem d17_6 : decode jdk_42_method_53_code 6 = .ok (.return_, 1) := by decide +kernel
theorem d18_0 : decode jdk_67_method_42_code 0 = .ok (.new 18, 3) := by decide +kernel
theorem d18_3 : decode jdk_67_method_42_code 3 = .ok (.dup, 1) := by decide +kernel
theorem d18_4 : decode jdk_67_method_42_code 4 = .ok (.aload_n 0, 1) := by decide +kernel
theorem pd10 : parseMethodDescriptor "(Ljava/lang/StringBuilder;)V" = some ⟨[(.object "java/lang/StringBuilder")], none⟩ := by decide +kernel
theorem d18_5 : decode jdk_67_method_42_code 5 = .ok (.invokespecial 137, 3) := by decide +kernel
theorem d18_8 : decode jdk_67_method_42_code 8 = .ok (.areturn, 1) := by decide +kernel
theorem d19_0 : decode prog_9_method_1_code 0 = .ok (.aload_n 0, 1) := by decide +kernel
theorem d19_1 : decode prog_9_method_1_code 1 = .ok (.invokespecial 1, 3) := by decide +kernel
theorem d19_4 : decode prog_9_method_1_code 4 = .ok (.aload_n 0, 1) := by decide +kernel
theorem d19_5 : decode prog_9_method_1_code 5 = .ok (.aload_n 1, 1) := by decide +kernel
theorem d19_6 : decode prog_9_method_1_code 6 = .ok (.putfield 7, 3) := by decide +kernel
theorem d19_9 : decode prog_9_method_1_code 9 = .ok (.aload_n 0, 1) := by decide +kernel
theorem d19_10 : decode prog_9_method_1_code 10 = .ok (.iload_n 2, 1) := by decide +kernel
theorem d19_11 : decode prog_9_method_1_code 11 = .ok (.putfield 13, 3) := by decide +kernel
theorem d19_14 : decode prog_9_method_1_code 14 = .ok (.return_, 1) := by decide +kernel
theorem pn6 : plainName "com/example/onceward/onceward/HostPort" = true := by first | (simp [plainName, overriddenIn]; done) | decide +kernel
theorem d20_0 : decode jdk_42_method_149_code 0 = .ok (.aload_n 0, 1) := by decide +kernel
theorem d20_1 : decode jdk_42_method_149_code 1 = .ok (.invokespecial 1, 3) := by decide +kernel
theorem d20_4 : decode jdk_42_method_149_code 4 = .ok (.iload_n 3, 1) := by decide +kernel
theorem d20_5 : decode jdk_42_method_149_code 5 = .ok (.ifCond .ne 22, 3) := by decide +kernel
theorem d20_8 : decode jdk_42_method_149_code 8 = .ok (.aload_n 0, 1) := by decide +kernel
theorem d20_9 : decode jdk_42_method_149_code 9 = .ok (.ldc 7, 2) := by decide +kernel
theorem d20_11 : decode jdk_42_method_149_code 11 = .ok (.getfield 9, 3) := by decide +kernel
theorem d20_14 : decode jdk_42_method_149_code 14 = .ok (.putfield 9, 3) := by decide +kernel
theorem d20_17 : decode jdk_42_method_149_code 17 = .ok (.aload_n 0, 1) := by decide +kernel
theorem d20_18 : decode jdk_42_method_149_code 18 = .ok (.ldc 7, 2) := by decide +kernel
theorem d20_20 : decode jdk_42_method_149_code 20 = .ok (.getfield 15, 3) := by decide +kernel
theorem d20_23 : decode jdk_42_method_149_code 23 = .ok (.putfield 15, 3) := by decide +kernel
theorem d20_26 : decode jdk_42_method_149_code 26 = .ok (.return_, 1) := by decide +kernel
theorem d21_0 : decode jdk_42_method_3_code 0 = .ok (.aload_n 0, 1) := by decide +kernel
theorem d21_1 : decode jdk_42_method_3_code 1 = .ok (.aload_n 1, 1) := by decide +kernel
theorem d21_2 : decode jdk_42_method_3_code 2 = .ok (.iconst 0, 1) := by decide +kernel
theorem d21_3 : decode jdk_42_method_3_code 3 = .ok (.aload_n 1, 1) := by decide +kernel
theorem d21_4 : decode jdk_42_method_3_code 4 = .ok (.arraylength, 1) := by decide +kernel
theorem d21_5 : decode jdk_42_method_3_code 5 = .ok (.aconst_null, 1) := by decide +kernel
theorem pd11 : parseMethodDescriptor "([CIILjava/lang/Void;)V" = some ⟨[(.array .char), .int, .int, (.object "java/lang/Void")], none⟩ := by decide +kernel
theorem d21_6 : decode jdk_42_method_3_code 6 = .ok (.invokespecial 27, 3) := by decide +kernel
theorem d21_9 : decode jdk_42_method_3_code 9 = .ok (.return_, 1) := by decide +kernel
theorem d22_0 : decode method_3_code 0 = .ok (.lload_n 0, 1) := by decide +kernel
theorem d22_1 : decode method_3_code 1 = .ok (.ldc2_w 40, 3) := by decide +kernel
theorem d22_4 : decode method_3_code 4 = .ok (.lcmp, 1) := by decide +kernel
theorem d22_5 : decode method_3_code 5 = .ok (.ifCond .ge 5, 3) := by decide +kernel
theorem d22_8 : decode method_3_code 8 = .ok (.iconst 1, 1) := by decide +kernel
theorem d22_9 : decode method_3_code 9 = .ok (.ireturn, 1) := by decide +kernel
theorem d22_10 : decode method_3_code 10 = .ok (.lload_n 0, 1) := by decide +kernel
theorem d22_11 : decode method_3_code 11 = .ok (.ldc2_w 42, 3) := by decide +kernel
theorem d22_14 : decode method_3_code 14 = .ok (.lcmp, 1) := by decide +kernel
theorem d22_15 : decode method_3_code 15 = .ok (.ifCond .ge 5, 3) := by decide +kernel
theorem d22_18 : decode method_3_code 18 = .ok (.iconst 2, 1) := by decide +kernel
theorem d22_19 : decode method_3_code 19 = .ok (.ireturn, 1) := by decide +kernel
theorem d22_20 : decode method_3_code 20 = .ok (.lload_n 0, 1) := by decide +kernel
theorem d22_21 : decode method_3_code 21 = .ok (.ldc2_w 44, 3) := by decide +kernel
theorem d22_24 : decode method_3_code 24 = .ok (.lcmp, 1) := by decide +kernel
theorem d22_25 : decode method_3_code 25 = .ok (.ifCond .ge 5, 3) := by decide +kernel
theorem d22_28 : decode method_3_code 28 = .ok (.iconst 3, 1) := by decide +kernel
theorem d22_29 : decode method_3_code 29 = .ok (.ireturn, 1) := by decide +kernel
theorem d22_30 : decode method_3_code 30 = .ok (.lload_n 0, 1) := by decide +kernel
theorem d22_31 : decode method_3_code 31 = .ok (.ldc2_w 46, 3) := by decide +kernel
theorem d22_34 : decode method_3_code 34 = .ok (.lcmp, 1) := by decide +kernel
theorem d22_35 : decode method_3_code 35 = .ok (.ifCond .ge 5, 3) := by decide +kernel
theorem d22_38 : decode method_3_code 38 = .ok (.iconst 4, 1) := by decide +kernel
theorem d22_39 : decode method_3_code 39 = .ok (.ireturn, 1) := by decide +kernel
theorem d22_40 : decode method_3_code 40 = .ok (.lload_n 0, 1) := by decide +kernel
theorem d22_41 : decode method_3_code 41 = .ok (.ldc2_w 48, 3) := by decide +kernel
theorem d22_44 : decode method_3_code 44 = .ok (.lcmp, 1) := by decide +kernel
theorem d22_45 : decode method_3_code 45 = .ok (.ifCond .ge 5, 3) := by decide +kernel
theorem d22_48 : decode method_3_code 48 = .ok (.iconst 5, 1) := by decide +kernel
theorem d22_49 : decode method_3_code 49 = .ok (.ireturn, 1) := by decide +kernel
theorem d22_50 : decode method_3_code 50 = .ok (.lload_n 0, 1) := by decide +kernel
theorem d22_51 : decode method_3_code 51 = .ok (.ldc2_w 50, 3) := by decide +kernel
theorem d22_54 : decode method_3_code 54 = .ok (.lcmp, 1) := by decide +kernel
theorem d22_55 : decode method_3_code 55 = .ok (.ifCond .ge 6, 3) := by decide +kernel
theorem d22_58 : decode method_3_code 58 = .ok (.bipush 6, 2) := by decide +kernel
theorem d22_60 : decode method_3_code 60 = .ok (.ireturn, 1) := by decide +kernel
theorem d22_61 : decode method_3_code 61 = .ok (.lload_n 0, 1) := by decide +kernel
theorem d22_62 : decode method_3_code 62 = .ok (.ldc2_w 52, 3) := by decide +kernel
theorem d22_65 : decode method_3_code 65 = .ok (.lcmp, 1) := by decide +kernel
theorem d22_66 : decode method_3_code 66 = .ok (.ifCond .ge 6, 3) := by decide +kernel
theorem d22_69 : decode method_3_code 69 = .ok (.bipush 7, 2) := by decide +kernel
theorem d22_71 : decode method_3_code 71 = .ok (.ireturn, 1) := by decide +kernel
theorem d22_72 : decode method_3_code 72 = .ok (.lload_n 0, 1) := by decide +kernel
theorem d22_73 : decode method_3_code 73 = .ok (.ldc2_w 54, 3) := by decide +kernel
theorem d22_76 : decode method_3_code 76 = .ok (.lcmp, 1) := by decide +kernel
theorem d22_77 : decode method_3_code 77 = .ok (.ifCond .ge 6, 3) := by decide +kernel
theorem d22_80 : decode method_3_code 80 = .ok (.bipush 8, 2) := by decide +kernel
theorem d22_82 : decode method_3_code 82 = .ok (.ireturn, 1) := by decide +kernel
theorem d22_83 : decode method_3_code 83 = .ok (.lload_n 0, 1) := by decide +kernel
theorem d22_84 : decode method_3_code 84 = .ok (.ldc2_w 56, 3) := by decide +kernel
theorem d22_87 : decode method_3_code 87 = .ok (.lcmp, 1) := by decide +kernel
theorem d22_88 : decode method_3_code 88 = .ok (.ifCond .ge 6, 3) := by decide +kernel
theorem d22_91 : decode method_3_code 91 = .ok (.bipush 9, 2) := by decide +kernel
theorem d22_93 : decode method_3_code 93 = .ok (.ireturn, 1) := by decide +kernel
theorem d22_94 : decode method_3_code 94 = .ok (.bipush 10, 2) := by decide +kernel
theorem d22_96 : decode method_3_code 96 = .ok (.ireturn, 1) := by decide +kernel
theorem pn7 : plainName "com/example/onceward/onceward/HostPortToStringPinLaw" = true := by first | (simp [plainName, overriddenIn]; done) | decide +kernel
theorem d23_0 : decode method_4_code 0 = .ok (.bipush 10, 2) := by decide +kernel
theorem d23_2 : decode method_4_code 2 = .ok (.newarray .long, 2) := by decide +kernel
theorem d23_4 : decode method_4_code 4 = .ok (.dup, 1) := by decide +kernel
theorem d23_5 : decode method_4_code 5 = .ok (.iconst 0, 1) := by decide +kernel
theorem d23_6 : decode method_4_code 6 = .ok (.lconst 1, 1) := by decide +kernel
theorem d23_7 : decode method_4_code 7 = .ok (.lastore, 1) := by decide +kernel
theorem d23_8 : decode method_4_code 8 = .ok (.dup, 1) := by decide +kernel
theorem d23_9 : decode method_4_code 9 = .ok (.iconst 1, 1) := by decide +kernel
theorem d23_10 : decode method_4_code 10 = .ok (.ldc2_w 40, 3) := by decide +kernel
theorem d23_13 : decode method_4_code 13 = .ok (.lastore, 1) := by decide +kernel
theorem d23_14 : decode method_4_code 14 = .ok (.dup, 1) := by decide +kernel
theorem d23_15 : decode method_4_code 15 = .ok (.iconst 2, 1) := by decide +kernel
theorem d23_16 : decode method_4_code 16 = .ok (.ldc2_w 42, 3) := by decide +kernel
theorem d23_19 : decode method_4_code 19 = .ok (.lastore, 1) := by decide +kernel
theorem d23_20 : decode method_4_code 20 = .ok (.dup, 1) := by decide +kernel
theorem d23_21 : decode method_4_code 21 = .ok (.iconst 3, 1) := by decide +kernel
theorem d23_22 : decode method_4_code 22 = .ok (.ldc2_w 44, 3) := by decide +kernel
theorem d23_25 : decode method_4_code 25 = .ok (.lastore, 1) := by decide +kernel
theorem d23_26 : decode method_4_code 26 = .ok (.dup, 1) := by decide +kernel
theorem d23_27 : decode method_4_code 27 = .ok (.iconst 4, 1) := by decide +kernel
theorem d23_28 : decode method_4_code 28 = .ok (.ldc2_w 46, 3) := by decide +kernel
theorem d23_31 : decode method_4_code 31 = .ok (.lastore, 1) := by decide +kernel
theorem d23_32 : decode method_4_code 32 = .ok (.dup, 1) := by decide +kernel
theorem d23_33 : decode method_4_code 33 = .ok (.iconst 5, 1) := by decide +kernel
theorem d23_34 : decode method_4_code 34 = .ok (.ldc2_w 48, 3) := by decide +kernel
theorem d23_37 : decode method_4_code 37 = .ok (.lastore, 1) := by decide +kernel
theorem d23_38 : decode method_4_code 38 = .ok (.dup, 1) := by decide +kernel
theorem d23_39 : decode method_4_code 39 = .ok (.bipush 6, 2) := by decide +kernel
theorem d23_41 : decode method_4_code 41 = .ok (.ldc2_w 50, 3) := by decide +kernel
theorem d23_44 : decode method_4_code 44 = .ok (.lastore, 1) := by decide +kernel
theorem d23_45 : decode method_4_code 45 = .ok (.dup, 1) := by decide +kernel
theorem d23_46 : decode method_4_code 46 = .ok (.bipush 7, 2) := by decide +kernel
theorem d23_48 : decode method_4_code 48 = .ok (.ldc2_w 52, 3) := by decide +kernel
theorem d23_51 : decode method_4_code 51 = .ok (.lastore, 1) := by decide +kernel
theorem d23_52 : decode method_4_code 52 = .ok (.dup, 1) := by decide +kernel
theorem d23_53 : decode method_4_code 53 = .ok (.bipush 8, 2) := by decide +kernel
theorem d23_55 : decode method_4_code 55 = .ok (.ldc2_w 54, 3) := by decide +kernel
theorem d23_58 : decode method_4_code 58 = .ok (.lastore, 1) := by decide +kernel
theorem d23_59 : decode method_4_code 59 = .ok (.dup, 1) := by decide +kernel
theorem d23_60 : decode method_4_code 60 = .ok (.bipush 9, 2) := by decide +kernel
theorem d23_62 : decode method_4_code 62 = .ok (.ldc2_w 56, 3) := by decide +kernel
theorem d23_65 : decode method_4_code 65 = .ok (.lastore, 1) := by decide +kernel
theorem d23_66 : decode method_4_code 66 = .ok (.astore_n 1, 1) := by decide +kernel
theorem d23_67 : decode method_4_code 67 = .ok (.aload_n 1, 1) := by decide +kernel
theorem d23_68 : decode method_4_code 68 = .ok (.iload_n 0, 1) := by decide +kernel
theorem d23_69 : decode method_4_code 69 = .ok (.laload, 1) := by decide +kernel
theorem d23_70 : decode method_4_code 70 = .ok (.lreturn, 1) := by decide +kernel
theorem pd12 : parseMethodDescriptor "([C)V" = some ⟨[(.array .char)], none⟩ := by decide +kernel
theorem pd13 : parseMethodDescriptor "(Ljava/lang/String;I)V" = some ⟨[(.object "java/lang/String"), .int], none⟩ := by decide +kernel
theorem d24_0 : decode prog_9_method_7_code 0 = .ok (.new 29, 3) := by decide +kernel
theorem d24_3 : decode prog_9_method_7_code 3 = .ok (.dup, 1) := by decide +kernel
theorem pd14 : parseMethodDescriptor "()V" = some ⟨[], none⟩ := by decide +kernel
theorem d24_4 : decode prog_9_method_7_code 4 = .ok (.invokespecial 31, 3) := by decide +kernel
theorem d24_7 : decode prog_9_method_7_code 7 = .ok (.aload_n 0, 1) := by decide +kernel
theorem d24_8 : decode prog_9_method_7_code 8 = .ok (.getfield 7, 3) := by decide +kernel
theorem d25_0 : decode jdk_67_method_7_code 0 = .ok (.aload_n 0, 1) := by decide +kernel
theorem d25_1 : decode jdk_67_method_7_code 1 = .ok (.aload_n 1, 1) := by decide +kernel
theorem d26_0 : decode jdk_68_method_22_code 0 = .ok (.aload_n 1, 1) := by decide +kernel
theorem d26_1 : decode jdk_68_method_22_code 1 = .ok (.ifnonnull 8, 3) := by decide +kernel
theorem d26_9 : decode jdk_68_method_22_code 9 = .ok (.aload_n 1, 1) := by decide +kernel
theorem d26_10 : decode jdk_68_method_22_code 10 = .ok (.invokevirtual 32, 3) := by decide +kernel
theorem d26_13 : decode jdk_68_method_22_code 13 = .ok (.istore_n 2, 1) := by decide +kernel
theorem d26_14 : decode jdk_68_method_22_code 14 = .ok (.aload_n 0, 1) := by decide +kernel
theorem d26_15 : decode jdk_68_method_22_code 15 = .ok (.aload_n 0, 1) := by decide +kernel
theorem d26_16 : decode jdk_68_method_22_code 16 = .ok (.getfield 79, 3) := by decide +kernel
theorem d26_19 : decode jdk_68_method_22_code 19 = .ok (.iload_n 2, 1) := by decide +kernel
theorem d26_20 : decode jdk_68_method_22_code 20 = .ok (.iadd, 1) := by decide +kernel
theorem d26_21 : decode jdk_68_method_22_code 21 = .ok (.invokevirtual 100, 3) := by decide +kernel
theorem d26_24 : decode jdk_68_method_22_code 24 = .ok (.aload_n 0, 1) := by decide +kernel
theorem d26_25 : decode jdk_68_method_22_code 25 = .ok (.aload_n 0, 1) := by decide +kernel
theorem d26_26 : decode jdk_68_method_22_code 26 = .ok (.getfield 79, 3) := by decide +kernel
theorem d26_29 : decode jdk_68_method_22_code 29 = .ok (.aload_n 1, 1) := by decide +kernel
theorem d27_0 : decode jdk_68_method_73_code 0 = .ok (.aload_n 0, 1) := by decide +kernel
theorem d27_1 : decode jdk_68_method_73_code 1 = .ok (.aload_n 2, 1) := by decide +kernel
theorem pd15 : parseMethodDescriptor "(Ljava/lang/String;)V" = some ⟨[(.object "java/lang/String")], none⟩ := by decide +kernel
theorem d27_2 : decode jdk_68_method_73_code 2 = .ok (.invokevirtual 397, 3) := by decide +kernel
theorem d27_5 : decode jdk_68_method_73_code 5 = .ok (.aload_n 2, 1) := by decide +kernel
theorem d27_6 : decode jdk_68_method_73_code 6 = .ok (.aload_n 0, 1) := by decide +kernel
theorem d27_7 : decode jdk_68_method_73_code 7 = .ok (.getfield 15, 3) := by decide +kernel
theorem d27_10 : decode jdk_68_method_73_code 10 = .ok (.iload_n 1, 1) := by decide +kernel
theorem d27_11 : decode jdk_68_method_73_code 11 = .ok (.aload_n 0, 1) := by decide +kernel
theorem d27_12 : decode jdk_68_method_73_code 12 = .ok (.getfield 22, 3) := by decide +kernel
theorem d28_0 : decode jdk_42_method_147_code 0 = .ok (.aload_n 0, 1) := by decide +kernel
theorem d28_1 : decode jdk_42_method_147_code 1 = .ok (.invokevirtual 335, 3) := by decide +kernel
theorem d28_4 : decode jdk_42_method_147_code 4 = .ok (.iload_n 3, 1) := by decide +kernel
theorem d28_5 : decode jdk_42_method_147_code 5 = .ok (.if_icmp .ne 23, 3) := by decide +kernel
theorem d28_8 : decode jdk_42_method_147_code 8 = .ok (.aload_n 0, 1) := by decide +kernel
theorem d28_9 : decode jdk_42_method_147_code 9 = .ok (.getfield 9, 3) := by decide +kernel
theorem d28_12 : decode jdk_42_method_147_code 12 = .ok (.iconst 0, 1) := by decide +kernel
theorem d28_13 : decode jdk_42_method_147_code 13 = .ok (.aload_n 1, 1) := by decide +kernel
theorem d28_14 : decode jdk_42_method_147_code 14 = .ok (.iload_n 2, 1) := by decide +kernel
theorem d28_15 : decode jdk_42_method_147_code 15 = .ok (.iload_n 3, 1) := by decide +kernel
theorem d28_16 : decode jdk_42_method_147_code 16 = .ok (.ishl, 1) := by decide +kernel
theorem d28_17 : decode jdk_42_method_147_code 17 = .ok (.aload_n 0, 1) := by decide +kernel
theorem d28_18 : decode jdk_42_method_147_code 18 = .ok (.getfield 9, 3) := by decide +kernel
theorem d28_21 : decode jdk_42_method_147_code 21 = .ok (.arraylength, 1) := by decide +kernel
theorem d28_22 : decode jdk_42_method_147_code 22 = .ok (.invokestatic 212, 3) := by decide +kernel
theorem d28_25 : decode jdk_42_method_147_code 25 = .ok (.goto 18, 3) := by decide +kernel
theorem d28_43 : decode jdk_42_method_147_code 43 = .ok (.return_, 1) := by decide +kernel
theorem pd16 : parseMethodDescriptor "([BIB)V" = some ⟨[(.array .byte), .int, .byte], none⟩ := by decide +kernel
theorem d27_15 : decode jdk_68_method_73_code 15 = .ok (.invokevirtual 399, 3) := by decide +kernel
theorem d27_18 : decode jdk_68_method_73_code 18 = .ok (.return_, 1) := by decide +kernel
theorem pd17 : parseMethodDescriptor "(ILjava/lang/String;)V" = some ⟨[.int, (.object "java/lang/String")], none⟩ := by decide +kernel
theorem d26_30 : decode jdk_68_method_22_code 30 = .ok (.invokevirtual 208, 3) := by decide +kernel
theorem d26_33 : decode jdk_68_method_22_code 33 = .ok (.aload_n 0, 1) := by decide +kernel
theorem d26_34 : decode jdk_68_method_22_code 34 = .ok (.dup, 1) := by decide +kernel
theorem d26_35 : decode jdk_68_method_22_code 35 = .ok (.getfield 79, 3) := by decide +kernel
theorem d26_38 : decode jdk_68_method_22_code 38 = .ok (.iload_n 2, 1) := by decide +kernel
theorem d26_39 : decode jdk_68_method_22_code 39 = .ok (.iadd, 1) := by decide +kernel
theorem d26_40 : decode jdk_68_method_22_code 40 = .ok (.putfield 79, 3) := by decide +kernel
theorem d26_43 : decode jdk_68_method_22_code 43 = .ok (.aload_n 0, 1) := by decide +kernel
theorem d26_44 : decode jdk_68_method_22_code 44 = .ok (.areturn, 1) := by decide +kernel
theorem pd18 : parseMethodDescriptor "(Ljava/lang/String;)Ljava/lang/AbstractStringBuilder;" = some ⟨[(.object "java/lang/String")], some (.object "java/lang/AbstractStringBuilder")⟩ := by decide +kernel
theorem d25_2 : decode jdk_67_method_7_code 2 = .ok (.invokespecial 29, 3) := by decide +kernel
theorem d25_5 : decode jdk_67_method_7_code 5 = .ok (.pop, 1) := by decide +kernel
theorem d25_6 : decode jdk_67_method_7_code 6 = .ok (.aload_n 0, 1) := by decide +kernel
theorem d25_7 : decode jdk_67_method_7_code 7 = .ok (.areturn, 1) := by decide +kernel
theorem pd19 : parseMethodDescriptor "(Ljava/lang/String;)Ljava/lang/StringBuilder;" = some ⟨[(.object "java/lang/String")], some (.object "java/lang/StringBuilder")⟩ := by decide +kernel
theorem d24_11 : decode prog_9_method_7_code 11 = .ok (.invokevirtual 32, 3) := by decide +kernel
theorem d24_14 : decode prog_9_method_7_code 14 = .ok (.ldc 87, 2) := by decide +kernel
theorem d24_16 : decode prog_9_method_7_code 16 = .ok (.invokevirtual 32, 3) := by decide +kernel
theorem d24_19 : decode prog_9_method_7_code 19 = .ok (.aload_n 0, 1) := by decide +kernel
theorem d24_20 : decode prog_9_method_7_code 20 = .ok (.getfield 13, 3) := by decide +kernel
theorem d29_0 : decode jdk_67_method_15_code 0 = .ok (.aload_n 0, 1) := by decide +kernel
theorem d29_1 : decode jdk_67_method_15_code 1 = .ok (.iload_n 1, 1) := by decide +kernel
theorem d30_0 : decode jdk_68_method_32_code 0 = .ok (.aload_n 0, 1) := by decide +kernel
theorem d30_1 : decode jdk_68_method_32_code 1 = .ok (.getfield 79, 3) := by decide +kernel
theorem d30_4 : decode jdk_68_method_32_code 4 = .ok (.istore_n 2, 1) := by decide +kernel
theorem d30_5 : decode jdk_68_method_32_code 5 = .ok (.iload_n 2, 1) := by decide +kernel
theorem d30_6 : decode jdk_68_method_32_code 6 = .ok (.iload_n 1, 1) := by decide +kernel
theorem pd20 : parseMethodDescriptor "(I)I" = some ⟨[.int], some .int⟩ := by decide +kernel
theorem d30_7 : decode jdk_68_method_32_code 7 = .ok (.invokestatic 245, 3) := by decide +kernel
theorem d30_10 : decode jdk_68_method_32_code 10 = .ok (.iadd, 1) := by decide +kernel
theorem d30_11 : decode jdk_68_method_32_code 11 = .ok (.istore_n 3, 1) := by decide +kernel
theorem d30_12 : decode jdk_68_method_32_code 12 = .ok (.aload_n 0, 1) := by decide +kernel
theorem d30_13 : decode jdk_68_method_32_code 13 = .ok (.iload_n 3, 1) := by decide +kernel
theorem d30_14 : decode jdk_68_method_32_code 14 = .ok (.invokevirtual 100, 3) := by decide +kernel
theorem d30_17 : decode jdk_68_method_32_code 17 = .ok (.aload_n 0, 1) := by decide +kernel
theorem d30_18 : decode jdk_68_method_32_code 18 = .ok (.invokevirtual 83, 3) := by decide +kernel
theorem d30_21 : decode jdk_68_method_32_code 21 = .ok (.ifCond .eq 16, 3) := by decide +kernel
theorem d30_24 : decode jdk_68_method_32_code 24 = .ok (.iload_n 1, 1) := by decide +kernel
theorem d30_25 : decode jdk_68_method_32_code 25 = .ok (.iload_n 3, 1) := by decide +kernel
theorem d30_26 : decode jdk_68_method_32_code 26 = .ok (.aload_n 0, 1) := by decide +kernel
theorem d30_27 : decode jdk_68_method_32_code 27 = .ok (.getfield 15, 3) := by decide +kernel
theorem pd21 : parseMethodDescriptor "(II[B)I" = some ⟨[.int, .int, (.array .byte)], some .int⟩ := by decide +kernel
theorem d30_30 : decode jdk_68_method_32_code 30 = .ok (.invokestatic 248, 3) := by decide +kernel
theorem d30_33 : decode jdk_68_method_32_code 33 = .ok (.pop, 1) := by decide +kernel
theorem d30_34 : decode jdk_68_method_32_code 34 = .ok (.goto 14, 3) := by decide +kernel
theorem d30_48 : decode jdk_68_method_32_code 48 = .ok (.aload_n 0, 1) := by decide +kernel
theorem d30_49 : decode jdk_68_method_32_code 49 = .ok (.iload_n 3, 1) := by decide +kernel
theorem d30_50 : decode jdk_68_method_32_code 50 = .ok (.putfield 79, 3) := by decide +kernel
theorem d30_53 : decode jdk_68_method_32_code 53 = .ok (.aload_n 0, 1) := by decide +kernel
theorem d30_54 : decode jdk_68_method_32_code 54 = .ok (.areturn, 1) := by decide +kernel
theorem pd22 : parseMethodDescriptor "(I)Ljava/lang/AbstractStringBuilder;" = some ⟨[.int], some (.object "java/lang/AbstractStringBuilder")⟩ := by decide +kernel
theorem d29_2 : decode jdk_67_method_15_code 2 = .ok (.invokespecial 53, 3) := by decide +kernel
theorem d29_5 : decode jdk_67_method_15_code 5 = .ok (.pop, 1) := by decide +kernel
theorem d29_6 : decode jdk_67_method_15_code 6 = .ok (.aload_n 0, 1) := by decide +kernel
theorem d29_7 : decode jdk_67_method_15_code 7 = .ok (.areturn, 1) := by decide +kernel
theorem pd23 : parseMethodDescriptor "(I)Ljava/lang/StringBuilder;" = some ⟨[.int], some (.object "java/lang/StringBuilder")⟩ := by decide +kernel
theorem d24_23 : decode prog_9_method_7_code 23 = .ok (.invokevirtual 89, 3) := by decide +kernel
theorem pd24 : parseMethodDescriptor "()Ljava/lang/String;" = some ⟨[], some (.object "java/lang/String")⟩ := by decide +kernel
theorem d24_26 : decode prog_9_method_7_code 26 = .ok (.invokevirtual 40, 3) := by decide +kernel
theorem d24_29 : decode prog_9_method_7_code 29 = .ok (.areturn, 1) := by decide +kernel
theorem pd25 : parseMethodDescriptor "(J)I" = some ⟨[.long], some .int⟩ := by decide +kernel
theorem pd26 : parseMethodDescriptor "(I)C" = some ⟨[.int], some .char⟩ := by decide +kernel
theorem d31_0 : decode method_5_code 0 = .ok (.iload 5, 2) := by decide +kernel
theorem d31_2 : decode method_5_code 2 = .ok (.iload_n 2, 1) := by decide +kernel
theorem d31_3 : decode method_5_code 3 = .ok (.if_icmp .lt 5, 3) := by decide +kernel
theorem d31_8 : decode method_5_code 8 = .ok (.iload_n 2, 1) := by decide +kernel
theorem d31_9 : decode method_5_code 9 = .ok (.iconst 1, 1) := by decide +kernel
theorem d31_10 : decode method_5_code 10 = .ok (.isub, 1) := by decide +kernel
theorem d31_11 : decode method_5_code 11 = .ok (.iload 5, 2) := by decide +kernel
theorem d31_13 : decode method_5_code 13 = .ok (.isub, 1) := by decide +kernel
theorem pd27 : parseMethodDescriptor "(I)J" = some ⟨[.int], some .long⟩ := by decide +kernel
theorem d31_14 : decode method_5_code 14 = .ok (.invokestatic 58, 3) := by decide +kernel
theorem d31_17 : decode method_5_code 17 = .ok (.lstore 6, 2) := by decide +kernel
theorem d31_19 : decode method_5_code 19 = .ok (.lload_n 3, 1) := by decide +kernel
theorem d31_20 : decode method_5_code 20 = .ok (.lload 6, 2) := by decide +kernel
theorem d31_22 : decode method_5_code 22 = .ok (.ldiv, 1) := by decide +kernel
theorem d31_23 : decode method_5_code 23 = .ok (.ldc2_w 40, 3) := by decide +kernel
theorem d31_26 : decode method_5_code 26 = .ok (.lrem, 1) := by decide +kernel
theorem d31_27 : decode method_5_code 27 = .ok (.l2i, 1) := by decide +kernel
theorem d31_28 : decode method_5_code 28 = .ok (.istore 8, 2) := by decide +kernel
theorem d31_30 : decode method_5_code 30 = .ok (.aload_n 0, 1) := by decide +kernel
theorem d31_31 : decode method_5_code 31 = .ok (.iload_n 1, 1) := by decide +kernel
theorem d31_32 : decode method_5_code 32 = .ok (.iload 5, 2) := by decide +kernel
theorem d31_34 : decode method_5_code 34 = .ok (.iadd, 1) := by decide +kernel
theorem d31_35 : decode method_5_code 35 = .ok (.invokevirtual 32, 3) := by decide +kernel
theorem d31_38 : decode method_5_code 38 = .ok (.bipush 48, 2) := by decide +kernel
theorem d31_40 : decode method_5_code 40 = .ok (.iload 8, 2) := by decide +kernel
theorem d31_42 : decode method_5_code 42 = .ok (.iadd, 1) := by decide +kernel
theorem d31_43 : decode method_5_code 43 = .ok (.i2c, 1) := by decide +kernel
theorem d31_44 : decode method_5_code 44 = .ok (.if_icmp .ne 7, 3) := by decide +kernel
theorem d31_47 : decode method_5_code 47 = .ok (.iconst 1, 1) := by decide +kernel
theorem d31_48 : decode method_5_code 48 = .ok (.goto 4, 3) := by decide +kernel
theorem d31_52 : decode method_5_code 52 = .ok (.ireturn, 1) := by decide +kernel
theorem d31_6 : decode method_5_code 6 = .ok (.iconst 1, 1) := by decide +kernel
theorem d31_7 : decode method_5_code 7 = .ok (.ireturn, 1) := by decide +kernel
theorem pd28 : parseMethodDescriptor "(Ljava/lang/String;IIJI)Z" = some ⟨[(.object "java/lang/String"), .int, .int, .long, .int], some .boolean⟩ := by decide +kernel
section CT
variable (l : Launch) {Z : State} {a0 : Array Value}
theorem ef1 (m : MethodId) (v0 : Int32) : entryFrame m #[(.int v0)] 4 = mkF m 0 #[.val (.int v0), .unset, .unset, .unset] [] := by first | (simp [entryFrame, mkF, argsToLocals, Value.category]; done) | rfl
def Q_strsz (Z : State) (p : Int32) (h0 : Heap) (xv : Value) (h : Heap) : Prop := ∃ (r : Int32), (.int r) = xv ∧ h0 = h ∧ r = Int32.ofNat (rep p).length
theorem c_strsz (G : GH Z a0) (p : Int32)  (h0 : Heap) (O0 : Old Z Z.heap.size h0)  : Con false [] l Z (⟨"java/lang/Integer", "stringSize", "(I)I"⟩ : MethodName) jdk_33_method_13_code 4 (some .int) [] (rm4 0 0 0 0) #[(.int p)] h0 [] (rvl (Q_strsz Z p h0)) := by
  refine conN G (plainFor_of_name pn1) O0 (fun m => ef1 m p) ?_
  intro _ _ _ m_ _ _ _ D hml hret hlk hnm
  refine go_iconst 1 (v := 1) (D d1_0) rfl rfl ?_
  refine go_istore_n 2 (ls' := #[vi p, vi 1, un, un]) (D d1_1) rfl rfl ?_
  refine go_iload_n 3 (D d1_2) rfl rfl ?_
  by_cases cz1 : p < (0 : Int32)
  · refine go_ifT 11 (D d1_3) (by decide) rfl (XT.i0_lt_t cz1) ?_
    refine go_bipush 13 (v := (-10)) (D d1_11) rfl rfl ?_
    refine go_istore_n 14 (ls' := #[vi p, vi 1, vi (-10 : Int32), un]) (D d1_13) rfl rfl ?_
    refine go_iconst 15 (v := 1) (D d1_14) rfl rfl ?_
    refine go_istore_n 16 (ls' := #[vi p, vi 1, vi (-10 : Int32), vi 1]) (D d1_15) rfl rfl ?_
    refine go_iload_n 17 (D d1_16) rfl rfl ?_
    refine go_bipush 19 (v := 10) (D d1_17) rfl rfl ?_
    refine go_icF 22 (D d1_19) rfl (by decide) ?_
    refine go_iload_n 23 (D d1_22) rfl rfl ?_
    refine go_iload_n 24 (D d1_23) rfl rfl ?_
    by_cases cz2 : (-10 : Int32) < p
    · refine go_icF 27 (D d1_24) rfl (XT.ii_le_f cz2) ?_
      refine go_iload_n 28 (D d1_27) rfl rfl ?_
      refine go_iload_n 29 (D d1_28) rfl rfl ?_
      refine go_iadd 30 (z := (2 : Int32)) (D d1_29) rfl (by decide) ?_
      refine go_ireturn hret hlk rfl (by simp) (D d1_30) (by decide) (by decide) ⟨_, rfl, ⟨(2 : Int32), rfl, rfl, (sz_n cz1 (nd_of (k := 1) (Or.inr rfl) (Or.inl ((thr_n cz1 (k := 10) (by decide) (by decide)).mp cz2)) (by decide) (by decide)) (by decide))⟩⟩ (Keep.refl h0 [])
    · refine go_icT 31 (D d1_24) (by decide) rfl (XT.ii_le_t cz2) ?_
      refine go_bipush 33 (v := 10) (D d1_31) rfl rfl ?_
      refine go_iload_n 34 (D d1_33) rfl rfl ?_
      refine go_imul 35 (z := (-100 : Int32)) (D d1_34) rfl (by decide) ?_
      refine go_istore_n 36 (ls' := #[vi p, vi 1, vi (-100 : Int32), vi 1]) (D d1_35) rfl rfl ?_
      refine go_iinc 39 (ls' := #[vi p, vi 1, vi (-100 : Int32), vi 2]) (y := (2 : Int32)) (D d1_36) rfl rfl rfl rfl ?_
      refine go_goto 16 (D d1_39) (by decide) rfl ?_
      refine go_iload_n 17 (D d1_16) rfl rfl ?_
      refine go_bipush 19 (v := 10) (D d1_17) rfl rfl ?_
      refine go_icF 22 (D d1_19) rfl (by decide) ?_
      refine go_iload_n 23 (D d1_22) rfl rfl ?_
      refine go_iload_n 24 (D d1_23) rfl rfl ?_
      by_cases cz3 : (-100 : Int32) < p
      · refine go_icF 27 (D d1_24) rfl (XT.ii_le_f cz3) ?_
        refine go_iload_n 28 (D d1_27) rfl rfl ?_
        refine go_iload_n 29 (D d1_28) rfl rfl ?_
        refine go_iadd 30 (z := (3 : Int32)) (D d1_29) rfl (by decide) ?_
        refine go_ireturn hret hlk rfl (by simp) (D d1_30) (by decide) (by decide) ⟨_, rfl, ⟨(3 : Int32), rfl, rfl, (sz_n cz1 (nd_of (k := 2) (Or.inl (Nat.le_of_not_lt (fun z => cz2 ((thr_n cz1 (k := 10) (by decide) (by decide)).mpr z)))) (Or.inl ((thr_n cz1 (k := 100) (by decide) (by decide)).mp cz3)) (by decide) (by decide)) (by decide))⟩⟩ (Keep.refl h0 [])
      · refine go_icT 31 (D d1_24) (by decide) rfl (XT.ii_le_t cz3) ?_
        refine go_bipush 33 (v := 10) (D d1_31) rfl rfl ?_
        refine go_iload_n 34 (D d1_33) rfl rfl ?_
        refine go_imul 35 (z := (-1000 : Int32)) (D d1_34) rfl (by decide) ?_
        refine go_istore_n 36 (ls' := #[vi p, vi 1, vi (-1000 : Int32), vi 2]) (D d1_35) rfl rfl ?_
        refine go_iinc 39 (ls' := #[vi p, vi 1, vi (-1000 : Int32), vi 3]) (y := (3 : Int32)) (D d1_36) rfl rfl rfl rfl ?_
        refine go_goto 16 (D d1_39) (by decide) rfl ?_
        refine go_iload_n 17 (D d1_16) rfl rfl ?_
        refine go_bipush 19 (v := 10) (D d1_17) rfl rfl ?_
        refine go_icF 22 (D d1_19) rfl (by decide) ?_
        refine go_iload_n 23 (D d1_22) rfl rfl ?_
        refine go_iload_n 24 (D d1_23) rfl rfl ?_
        by_cases cz4 : (-1000 : Int32) < p
        · refine go_icF 27 (D d1_24) rfl (XT.ii_le_f cz4) ?_
          refine go_iload_n 28 (D d1_27) rfl rfl ?_
          refine go_iload_n 29 (D d1_28) rfl rfl ?_
          refine go_iadd 30 (z := (4 : Int32)) (D d1_29) rfl (by decide) ?_
          refine go_ireturn hret hlk rfl (by simp) (D d1_30) (by decide) (by decide) ⟨_, rfl, ⟨(4 : Int32), rfl, rfl, (sz_n cz1 (nd_of (k := 3) (Or.inl (Nat.le_of_not_lt (fun z => cz3 ((thr_n cz1 (k := 100) (by decide) (by decide)).mpr z)))) (Or.inl ((thr_n cz1 (k := 1000) (by decide) (by decide)).mp cz4)) (by decide) (by decide)) (by decide))⟩⟩ (Keep.refl h0 [])
        · refine go_icT 31 (D d1_24) (by decide) rfl (XT.ii_le_t cz4) ?_
          refine go_bipush 33 (v := 10) (D d1_31) rfl rfl ?_
          refine go_iload_n 34 (D d1_33) rfl rfl ?_
          refine go_imul 35 (z := (-10000 : Int32)) (D d1_34) rfl (by decide) ?_
          refine go_istore_n 36 (ls' := #[vi p, vi 1, vi (-10000 : Int32), vi 3]) (D d1_35) rfl rfl ?_
          refine go_iinc 39 (ls' := #[vi p, vi 1, vi (-10000 : Int32), vi 4]) (y := (4 : Int32)) (D d1_36) rfl rfl rfl rfl ?_
          refine go_goto 16 (D d1_39) (by decide) rfl ?_
          refine go_iload_n 17 (D d1_16) rfl rfl ?_
          refine go_bipush 19 (v := 10) (D d1_17) rfl rfl ?_
          refine go_icF 22 (D d1_19) rfl (by decide) ?_
          refine go_iload_n 23 (D d1_22) rfl rfl ?_
          refine go_iload_n 24 (D d1_23) rfl rfl ?_
          by_cases cz5 : (-10000 : Int32) < p
          · refine go_icF 27 (D d1_24) rfl (XT.ii_le_f cz5) ?_
            refine go_iload_n 28 (D d1_27) rfl rfl ?_
            refine go_iload_n 29 (D d1_28) rfl rfl ?_
            refine go_iadd 30 (z := (5 : Int32)) (D d1_29) rfl (by decide) ?_
            refine go_ireturn hret hlk rfl (by simp) (D d1_30) (by decide) (by decide) ⟨_, rfl, ⟨(5 : Int32), rfl, rfl, (sz_n cz1 (nd_of (k := 4) (Or.inl (Nat.le_of_not_lt (fun z => cz4 ((thr_n cz1 (k := 1000) (by decide) (by decide)).mpr z)))) (Or.inl ((thr_n cz1 (k := 10000) (by decide) (by decide)).mp cz5)) (by decide) (by decide)) (by decide))⟩⟩ (Keep.refl h0 [])
          · refine go_icT 31 (D d1_24) (by decide) rfl (XT.ii_le_t cz5) ?_
            refine go_bipush 33 (v := 10) (D d1_31) rfl rfl ?_
            refine go_iload_n 34 (D d1_33) rfl rfl ?_
            refine go_imul 35 (z := (-100000 : Int32)) (D d1_34) rfl (by decide) ?_
            refine go_istore_n 36 (ls' := #[vi p, vi 1, vi (-100000 : Int32), vi 4]) (D d1_35) rfl rfl ?_
            refine go_iinc 39 (ls' := #[vi p, vi 1, vi (-100000 : Int32), vi 5]) (y := (5 : Int32)) (D d1_36) rfl rfl rfl rfl ?_
            refine go_goto 16 (D d1_39) (by decide) rfl ?_
            refine go_iload_n 17 (D d1_16) rfl rfl ?_
            refine go_bipush 19 (v := 10) (D d1_17) rfl rfl ?_
            refine go_icF 22 (D d1_19) rfl (by decide) ?_
            refine go_iload_n 23 (D d1_22) rfl rfl ?_
            refine go_iload_n 24 (D d1_23) rfl rfl ?_
            by_cases cz6 : (-100000 : Int32) < p
            · refine go_icF 27 (D d1_24) rfl (XT.ii_le_f cz6) ?_
              refine go_iload_n 28 (D d1_27) rfl rfl ?_
              refine go_iload_n 29 (D d1_28) rfl rfl ?_
              refine go_iadd 30 (z := (6 : Int32)) (D d1_29) rfl (by decide) ?_
              refine go_ireturn hret hlk rfl (by simp) (D d1_30) (by decide) (by decide) ⟨_, rfl, ⟨(6 : Int32), rfl, rfl, (sz_n cz1 (nd_of (k := 5) (Or.inl (Nat.le_of_not_lt (fun z => cz5 ((thr_n cz1 (k := 10000) (by decide) (by decide)).mpr z)))) (Or.inl ((thr_n cz1 (k := 100000) (by decide) (by decide)).mp cz6)) (by decide) (by decide)) (by decide))⟩⟩ (Keep.refl h0 [])
            · refine go_icT 31 (D d1_24) (by decide) rfl (XT.ii_le_t cz6) ?_
              refine go_bipush 33 (v := 10) (D d1_31) rfl rfl ?_
              refine go_iload_n 34 (D d1_33) rfl rfl ?_
              refine go_imul 35 (z := (-1000000 : Int32)) (D d1_34) rfl (by decide) ?_
              refine go_istore_n 36 (ls' := #[vi p, vi 1, vi (-1000000 : Int32), vi 5]) (D d1_35) rfl rfl ?_
              refine go_iinc 39 (ls' := #[vi p, vi 1, vi (-1000000 : Int32), vi 6]) (y := (6 : Int32)) (D d1_36) rfl rfl rfl rfl ?_
              refine go_goto 16 (D d1_39) (by decide) rfl ?_
              refine go_iload_n 17 (D d1_16) rfl rfl ?_
              refine go_bipush 19 (v := 10) (D d1_17) rfl rfl ?_
              refine go_icF 22 (D d1_19) rfl (by decide) ?_
              refine go_iload_n 23 (D d1_22) rfl rfl ?_
              refine go_iload_n 24 (D d1_23) rfl rfl ?_
              by_cases cz7 : (-1000000 : Int32) < p
              · refine go_icF 27 (D d1_24) rfl (XT.ii_le_f cz7) ?_
                refine go_iload_n 28 (D d1_27) rfl rfl ?_
                refine go_iload_n 29 (D d1_28) rfl rfl ?_
                refine go_iadd 30 (z := (7 : Int32)) (D d1_29) rfl (by decide) ?_
                refine go_ireturn hret hlk rfl (by simp) (D d1_30) (by decide) (by decide) ⟨_, rfl, ⟨(7 : Int32), rfl, rfl, (sz_n cz1 (nd_of (k := 6) (Or.inl (Nat.le_of_not_lt (fun z => cz6 ((thr_n cz1 (k := 100000) (by decide) (by decide)).mpr z)))) (Or.inl ((thr_n cz1 (k := 1000000) (by decide) (by decide)).mp cz7)) (by decide) (by decide)) (by decide))⟩⟩ (Keep.refl h0 [])
              · refine go_icT 31 (D d1_24) (by decide) rfl (XT.ii_le_t cz7) ?_
                refine go_bipush 33 (v := 10) (D d1_31) rfl rfl ?_
                refine go_iload_n 34 (D d1_33) rfl rfl ?_
                refine go_imul 35 (z := (-10000000 : Int32)) (D d1_34) rfl (by decide) ?_
                refine go_istore_n 36 (ls' := #[vi p, vi 1, vi (-10000000 : Int32), vi 6]) (D d1_35) rfl rfl ?_
                refine go_iinc 39 (ls' := #[vi p, vi 1, vi (-10000000 : Int32), vi 7]) (y := (7 : Int32)) (D d1_36) rfl rfl rfl rfl ?_
                refine go_goto 16 (D d1_39) (by decide) rfl ?_
                refine go_iload_n 17 (D d1_16) rfl rfl ?_
                refine go_bipush 19 (v := 10) (D d1_17) rfl rfl ?_
                refine go_icF 22 (D d1_19) rfl (by decide) ?_
                refine go_iload_n 23 (D d1_22) rfl rfl ?_
                refine go_iload_n 24 (D d1_23) rfl rfl ?_
                by_cases cz8 : (-10000000 : Int32) < p
                · refine go_icF 27 (D d1_24) rfl (XT.ii_le_f cz8) ?_
                  refine go_iload_n 28 (D d1_27) rfl rfl ?_
                  refine go_iload_n 29 (D d1_28) rfl rfl ?_
                  refine go_iadd 30 (z := (8 : Int32)) (D d1_29) rfl (by decide) ?_
                  refine go_ireturn hret hlk rfl (by simp) (D d1_30) (by decide) (by decide) ⟨_, rfl, ⟨(8 : Int32), rfl, rfl, (sz_n cz1 (nd_of (k := 7) (Or.inl (Nat.le_of_not_lt (fun z => cz7 ((thr_n cz1 (k := 1000000) (by decide) (by decide)).mpr z)))) (Or.inl ((thr_n cz1 (k := 10000000) (by decide) (by decide)).mp cz8)) (by decide) (by decide)) (by decide))⟩⟩ (Keep.refl h0 [])
                · refine go_icT 31 (D d1_24) (by decide) rfl (XT.ii_le_t cz8) ?_
                  refine go_bipush 33 (v := 10) (D d1_31) rfl rfl ?_
                  refine go_iload_n 34 (D d1_33) rfl rfl ?_
                  refine go_imul 35 (z := (-100000000 : Int32)) (D d1_34) rfl (by decide) ?_
                  refine go_istore_n 36 (ls' := #[vi p, vi 1, vi (-100000000 : Int32), vi 7]) (D d1_35) rfl rfl ?_
                  refine go_iinc 39 (ls' := #[vi p, vi 1, vi (-100000000 : Int32), vi 8]) (y := (8 : Int32)) (D d1_36) rfl rfl rfl rfl ?_
                  refine go_goto 16 (D d1_39) (by decide) rfl ?_
                  refine go_iload_n 17 (D d1_16) rfl rfl ?_
                  refine go_bipush 19 (v := 10) (D d1_17) rfl rfl ?_
                  refine go_icF 22 (D d1_19) rfl (by decide) ?_
                  refine go_iload_n 23 (D d1_22) rfl rfl ?_
                  refine go_iload_n 24 (D d1_23) rfl rfl ?_
                  by_cases cz9 : (-100000000 : Int32) < p
                  · refine go_icF 27 (D d1_24) rfl (XT.ii_le_f cz9) ?_
                    refine go_iload_n 28 (D d1_27) rfl rfl ?_
                    refine go_iload_n 29 (D d1_28) rfl rfl ?_
                    refine go_iadd 30 (z := (9 : Int32)) (D d1_29) rfl (by decide) ?_
                    refine go_ireturn hret hlk rfl (by simp) (D d1_30) (by decide) (by decide) ⟨_, rfl, ⟨(9 : Int32), rfl, rfl, (sz_n cz1 (nd_of (k := 8) (Or.inl (Nat.le_of_not_lt (fun z => cz8 ((thr_n cz1 (k := 10000000) (by decide) (by decide)).mpr z)))) (Or.inl ((thr_n cz1 (k := 100000000) (by decide) (by decide)).mp cz9)) (by decide) (by decide)) (by decide))⟩⟩ (Keep.refl h0 [])
                  · refine go_icT 31 (D d1_24) (by decide) rfl (XT.ii_le_t cz9) ?_
                    refine go_bipush 33 (v := 10) (D d1_31) rfl rfl ?_
                    refine go_iload_n 34 (D d1_33) rfl rfl ?_
                    refine go_imul 35 (z := (-1000000000 : Int32)) (D d1_34) rfl (by decide) ?_
                    refine go_istore_n 36 (ls' := #[vi p, vi 1, vi (-1000000000 : Int32), vi 8]) (D d1_35) rfl rfl ?_
                    refine go_iinc 39 (ls' := #[vi p, vi 1, vi (-1000000000 : Int32), vi 9]) (y := (9 : Int32)) (D d1_36) rfl rfl rfl rfl ?_
                    refine go_goto 16 (D d1_39) (by decide) rfl ?_
                    refine go_iload_n 17 (D d1_16) rfl rfl ?_
                    refine go_bipush 19 (v := 10) (D d1_17) rfl rfl ?_
                    refine go_icF 22 (D d1_19) rfl (by decide) ?_
                    refine go_iload_n 23 (D d1_22) rfl rfl ?_
                    refine go_iload_n 24 (D d1_23) rfl rfl ?_
                    by_cases cz10 : (-1000000000 : Int32) < p
                    · refine go_icF 27 (D d1_24) rfl (XT.ii_le_f cz10) ?_
                      refine go_iload_n 28 (D d1_27) rfl rfl ?_
                      refine go_iload_n 29 (D d1_28) rfl rfl ?_
                      refine go_iadd 30 (z := (10 : Int32)) (D d1_29) rfl (by decide) ?_
                      refine go_ireturn hret hlk rfl (by simp) (D d1_30) (by decide) (by decide) ⟨_, rfl, ⟨(10 : Int32), rfl, rfl, (sz_n cz1 (nd_of (k := 9) (Or.inl (Nat.le_of_not_lt (fun z => cz9 ((thr_n cz1 (k := 100000000) (by decide) (by decide)).mpr z)))) (Or.inl ((thr_n cz1 (k := 1000000000) (by decide) (by decide)).mp cz10)) (by decide) (by decide)) (by decide))⟩⟩ (Keep.refl h0 [])
                    · refine go_icT 31 (D d1_24) (by decide) rfl (XT.ii_le_t cz10) ?_
                      refine go_bipush 33 (v := 10) (D d1_31) rfl rfl ?_
                      refine go_iload_n 34 (D d1_33) rfl rfl ?_
                      refine go_imul 35 (z := (-1410065408 : Int32)) (D d1_34) rfl (by decide) ?_
                      refine go_istore_n 36 (ls' := #[vi p, vi 1, vi (-1410065408 : Int32), vi 9]) (D d1_35) rfl rfl ?_
                      refine go_iinc 39 (ls' := #[vi p, vi 1, vi (-1410065408 : Int32), vi 10]) (y := (10 : Int32)) (D d1_36) rfl rfl rfl rfl ?_
                      refine go_goto 16 (D d1_39) (by decide) rfl ?_
                      refine go_iload_n 17 (D d1_16) rfl rfl ?_
                      refine go_bipush 19 (v := 10) (D d1_17) rfl rfl ?_
                      refine go_icT 42 (D d1_19) (by decide) rfl (by decide) ?_
                      refine go_bipush 44 (v := 10) (D d1_42) rfl rfl ?_
                      refine go_iload_n 45 (D d1_44) rfl rfl ?_
                      refine go_iadd 46 (z := (11 : Int32)) (D d1_45) rfl (by decide) ?_
                      refine go_ireturn hret hlk rfl (by simp) (D d1_46) (by decide) (by decide) ⟨_, rfl, ⟨(11 : Int32), rfl, rfl, (sz_n cz1 (nd_of (k := 10) (Or.inl (Nat.le_of_not_lt (fun z => cz10 ((thr_n cz1 (k := 1000000000) (by decide) (by decide)).mpr z)))) (Or.inr rfl) (by decide) (by decide)) (by decide))⟩⟩ (Keep.refl h0 [])
  · refine go_ifF 6 (D d1_3) rfl (XT.i0_lt_f cz1) ?_
    refine go_iconst 7 (v := 0) (D d1_6) rfl rfl ?_
    refine go_istore_n 8 (ls' := #[vi p, vi 0, un, un]) (D d1_7) rfl rfl ?_
    refine go_iload_n 9 (D d1_8) rfl rfl ?_
    refine go_ineg 10 (z := (-p)) (D d1_9) rfl rfl ?_
    refine go_istore_n 11 (ls' := #[vi (-p), vi 0, un, un]) (D d1_10) rfl rfl ?_
    refine go_bipush 13 (v := (-10)) (D d1_11) rfl rfl ?_
    refine go_istore_n 14 (ls' := #[vi (-p), vi 0, vi (-10 : Int32), un]) (D d1_13) rfl rfl ?_
    refine go_iconst 15 (v := 1) (D d1_14) rfl rfl ?_
    refine go_istore_n 16 (ls' := #[vi (-p), vi 0, vi (-10 : Int32), vi 1]) (D d1_15) rfl rfl ?_
    refine go_iload_n 17 (D d1_16) rfl rfl ?_
    refine go_bipush 19 (v := 10) (D d1_17) rfl rfl ?_
    refine go_icF 22 (D d1_19) rfl (by decide) ?_
    refine go_iload_n 23 (D d1_22) rfl rfl ?_
    refine go_iload_n 24 (D d1_23) rfl rfl ?_
    by_cases cz11 : (-10 : Int32) < (-p)
    · refine go_icF 27 (D d1_24) rfl (XT.ii_le_f cz11) ?_
      refine go_iload_n 28 (D d1_27) rfl rfl ?_
      refine go_iload_n 29 (D d1_28) rfl rfl ?_
      refine go_iadd 30 (z := (1 : Int32)) (D d1_29) rfl (by decide) ?_
      refine go_ireturn hret hlk rfl (by simp) (D d1_30) (by decide) (by decide) ⟨_, rfl, ⟨(1 : Int32), rfl, rfl, (sz_p cz1 (nd_of (k := 1) (Or.inr rfl) (Or.inl ((thr_p cz1 (k := 10) (by decide) (by decide)).mp cz11)) (by decide) (by decide)) (by decide))⟩⟩ (Keep.refl h0 [])
    · refine go_icT 31 (D d1_24) (by decide) rfl (XT.ii_le_t cz11) ?_
      refine go_bipush 33 (v := 10) (D d1_31) rfl rfl ?_
      refine go_iload_n 34 (D d1_33) rfl rfl ?_
      refine go_imul 35 (z := (-100 : Int32)) (D d1_34) rfl (by decide) ?_
      refine go_istore_n 36 (ls' := #[vi (-p), vi 0, vi (-100 : Int32), vi 1]) (D d1_35) rfl rfl ?_
      refine go_iinc 39 (ls' := #[vi (-p), vi 0, vi (-100 : Int32), vi 2]) (y := (2 : Int32)) (D d1_36) rfl rfl rfl rfl ?_
      refine go_goto 16 (D d1_39) (by decide) rfl ?_
      refine go_iload_n 17 (D d1_16) rfl rfl ?_
      refine go_bipush 19 (v := 10) (D d1_17) rfl rfl ?_
      refine go_icF 22 (D d1_19) rfl (by decide) ?_
      refine go_iload_n 23 (D d1_22) rfl rfl ?_
      refine go_iload_n 24 (D d1_23) rfl rfl ?_
      by_cases cz12 : (-100 : Int32) < (-p)
      · refine go_icF 27 (D d1_24) rfl (XT.ii_le_f cz12) ?_
        refine go_iload_n 28 (D d1_27) rfl rfl ?_
        refine go_iload_n 29 (D d1_28) rfl rfl ?_
        refine go_iadd 30 (z := (2 : Int32)) (D d1_29) rfl (by decide) ?_
        refine go_ireturn hret hlk rfl (by simp) (D d1_30) (by decide) (by decide) ⟨_, rfl, ⟨(2 : Int32), rfl, rfl, (sz_p cz1 (nd_of (k := 2) (Or.inl (Nat.le_of_not_lt (fun z => cz11 ((thr_p cz1 (k := 10) (by decide) (by decide)).mpr z)))) (Or.inl ((thr_p cz1 (k := 100) (by decide) (by decide)).mp cz12)) (by decide) (by decide)) (by decide))⟩⟩ (Keep.refl h0 [])
      · refine go_icT 31 (D d1_24) (by decide) rfl (XT.ii_le_t cz12) ?_
        refine go_bipush 33 (v := 10) (D d1_31) rfl rfl ?_
        refine go_iload_n 34 (D d1_33) rfl rfl ?_
        refine go_imul 35 (z := (-1000 : Int32)) (D d1_34) rfl (by decide) ?_
        refine go_istore_n 36 (ls' := #[vi (-p), vi 0, vi (-1000 : Int32), vi 2]) (D d1_35) rfl rfl ?_
        refine go_iinc 39 (ls' := #[vi (-p), vi 0, vi (-1000 : Int32), vi 3]) (y := (3 : Int32)) (D d1_36) rfl rfl rfl rfl ?_
        refine go_goto 16 (D d1_39) (by decide) rfl ?_
        refine go_iload_n 17 (D d1_16) rfl rfl ?_
        refine go_bipush 19 (v := 10) (D d1_17) rfl rfl ?_
        refine go_icF 22 (D d1_19) rfl (by decide) ?_
        refine go_iload_n 23 (D d1_22) rfl rfl ?_
        refine go_iload_n 24 (D d1_23) rfl rfl ?_
        by_cases cz13 : (-1000 : Int32) < (-p)
        · refine go_icF 27 (D d1_24) rfl (XT.ii_le_f cz13) ?_
          refine go_iload_n 28 (D d1_27) rfl rfl ?_
          refine go_iload_n 29 (D d1_28) rfl rfl ?_
          refine go_iadd 30 (z := (3 : Int32)) (D d1_29) rfl (by decide) ?_
          refine go_ireturn hret hlk rfl (by simp) (D d1_30) (by decide) (by decide) ⟨_, rfl, ⟨(3 : Int32), rfl, rfl, (sz_p cz1 (nd_of (k := 3) (Or.inl (Nat.le_of_not_lt (fun z => cz12 ((thr_p cz1 (k := 100) (by decide) (by decide)).mpr z)))) (Or.inl ((thr_p cz1 (k := 1000) (by decide) (by decide)).mp cz13)) (by decide) (by decide)) (by decide))⟩⟩ (Keep.refl h0 [])
        · refine go_icT 31 (D d1_24) (by decide) rfl (XT.ii_le_t cz13) ?_
          refine go_bipush 33 (v := 10) (D d1_31) rfl rfl ?_
          refine go_iload_n 34 (D d1_33) rfl rfl ?_
          refine go_imul 35 (z := (-10000 : Int32)) (D d1_34) rfl (by decide) ?_
          refine go_istore_n 36 (ls' := #[vi (-p), vi 0, vi (-10000 : Int32), vi 3]) (D d1_35) rfl rfl ?_
          refine go_iinc 39 (ls' := #[vi (-p), vi 0, vi (-10000 : Int32), vi 4]) (y := (4 : Int32)) (D d1_36) rfl rfl rfl rfl ?_
          refine go_goto 16 (D d1_39) (by decide) rfl ?_
          refine go_iload_n 17 (D d1_16) rfl rfl ?_
          refine go_bipush 19 (v := 10) (D d1_17) rfl rfl ?_
          refine go_icF 22 (D d1_19) rfl (by decide) ?_
          refine go_iload_n 23 (D d1_22) rfl rfl ?_
          refine go_iload_n 24 (D d1_23) rfl rfl ?_
          by_cases cz14 : (-10000 : Int32) < (-p)
          · refine go_icF 27 (D d1_24) rfl (XT.ii_le_f cz14) ?_
            refine go_iload_n 28 (D d1_27) rfl rfl ?_
            refine go_iload_n 29 (D d1_28) rfl rfl ?_
            refine go_iadd 30 (z := (4 : Int32)) (D d1_29) rfl (by decide) ?_
            refine go_ireturn hret hlk rfl (by simp) (D d1_30) (by decide) (by decide) ⟨_, rfl, ⟨(4 : Int32), rfl, rfl, (sz_p cz1 (nd_of (k := 4) (Or.inl (Nat.le_of_not_lt (fun z => cz13 ((thr_p cz1 (k := 1000) (by decide) (by decide)).mpr z)))) (Or.inl ((thr_p cz1 (k := 10000) (by decide) (by decide)).mp cz14)) (by decide) (by decide)) (by decide))⟩⟩ (Keep.refl h0 [])
          · refine go_icT 31 (D d1_24) (by decide) rfl (XT.ii_le_t cz14) ?_
            refine go_bipush 33 (v := 10) (D d1_31) rfl rfl ?_
            refine go_iload_n 34 (D d1_33) rfl rfl ?_
            refine go_imul 35 (z := (-100000 : Int32)) (D d1_34) rfl (by decide) ?_
            refine go_istore_n 36 (ls' := #[vi (-p), vi 0, vi (-100000 : Int32), vi 4]) (D d1_35) rfl rfl ?_
            refine go_iinc 39 (ls' := #[vi (-p), vi 0, vi (-100000 : Int32), vi 5]) (y := (5 : Int32)) (D d1_36) rfl rfl rfl rfl ?_
            refine go_goto 16 (D d1_39) (by decide) rfl ?_
            refine go_iload_n 17 (D d1_16) rfl rfl ?_
            refine go_bipush 19 (v := 10) (D d1_17) rfl rfl ?_
            refine go_icF 22 (D d1_19) rfl (by decide) ?_
            refine go_iload_n 23 (D d1_22) rfl rfl ?_
            refine go_iload_n 24 (D d1_23) rfl rfl ?_
            by_cases cz15 : (-100000 : Int32) < (-p)
            · refine go_icF 27 (D d1_24) rfl (XT.ii_le_f cz15) ?_
              refine go_iload_n 28 (D d1_27) rfl rfl ?_
              refine go_iload_n 29 (D d1_28) rfl rfl ?_
              refine go_iadd 30 (z := (5 : Int32)) (D d1_29) rfl (by decide) ?_
              refine go_ireturn hret hlk rfl (by simp) (D d1_30) (by decide) (by decide) ⟨_, rfl, ⟨(5 : Int32), rfl, rfl, (sz_p cz1 (nd_of (k := 5) (Or.inl (Nat.le_of_not_lt (fun z => cz14 ((thr_p cz1 (k := 10000) (by decide) (by decide)).mpr z)))) (Or.inl ((thr_p cz1 (k := 100000) (by decide) (by decide)).mp cz15)) (by decide) (by decide)) (by decide))⟩⟩ (Keep.refl h0 [])
            · refine go_icT 31 (D d1_24) (by decide) rfl (XT.ii_le_t cz15) ?_
              refine go_bipush 33 (v := 10) (D d1_31) rfl rfl ?_
              refine go_iload_n 34 (D d1_33) rfl rfl ?_
              refine go_imul 35 (z := (-1000000 : Int32)) (D d1_34) rfl (by decide) ?_
              refine go_istore_n 36 (ls' := #[vi (-p), vi 0, vi (-1000000 : Int32), vi 5]) (D d1_35) rfl rfl ?_
              refine go_iinc 39 (ls' := #[vi (-p), vi 0, vi (-1000000 : Int32), vi 6]) (y := (6 : Int32)) (D d1_36) rfl rfl rfl rfl ?_
              refine go_goto 16 (D d1_39) (by decide) rfl ?_
              refine go_iload_n 17 (D d1_16) rfl rfl ?_
              refine go_bipush 19 (v := 10) (D d1_17) rfl rfl ?_
              refine go_icF 22 (D d1_19) rfl (by decide) ?_
              refine go_iload_n 23 (D d1_22) rfl rfl ?_
              refine go_iload_n 24 (D d1_23) rfl rfl ?_
              by_cases cz16 : (-1000000 : Int32) < (-p)
              · refine go_icF 27 (D d1_24) rfl (XT.ii_le_f cz16) ?_
                refine go_iload_n 28 (D d1_27) rfl rfl ?_
                refine go_iload_n 29 (D d1_28) rfl rfl ?_
                refine go_iadd 30 (z := (6 : Int32)) (D d1_29) rfl (by decide) ?_
                refine go_ireturn hret hlk rfl (by simp) (D d1_30) (by decide) (by decide) ⟨_, rfl, ⟨(6 : Int32), rfl, rfl, (sz_p cz1 (nd_of (k := 6) (Or.inl (Nat.le_of_not_lt (fun z => cz15 ((thr_p cz1 (k := 100000) (by decide) (by decide)).mpr z)))) (Or.inl ((thr_p cz1 (k := 1000000) (by decide) (by decide)).mp cz16)) (by decide) (by decide)) (by decide))⟩⟩ (Keep.refl h0 [])
              · refine go_icT 31 (D d1_24) (by decide) rfl (XT.ii_le_t cz16) ?_
                refine go_bipush 33 (v := 10) (D d1_31) rfl rfl ?_
                refine go_iload_n 34 (D d1_33) rfl rfl ?_
                refine go_imul 35 (z := (-10000000 : Int32)) (D d1_34) rfl (by decide) ?_
                refine go_istore_n 36 (ls' := #[vi (-p), vi 0, vi (-10000000 : Int32), vi 6]) (D d1_35) rfl rfl ?_
                refine go_iinc 39 (ls' := #[vi (-p), vi 0, vi (-10000000 : Int32), vi 7]) (y := (7 : Int32)) (D d1_36) rfl rfl rfl rfl ?_
                refine go_goto 16 (D d1_39) (by decide) rfl ?_
                refine go_iload_n 17 (D d1_16) rfl rfl ?_
                refine go_bipush 19 (v := 10) (D d1_17) rfl rfl ?_
                refine go_icF 22 (D d1_19) rfl (by decide) ?_
                refine go_iload_n 23 (D d1_22) rfl rfl ?_
                refine go_iload_n 24 (D d1_23) rfl rfl ?_
                by_cases cz17 : (-10000000 : Int32) < (-p)
                · refine go_icF 27 (D d1_24) rfl (XT.ii_le_f cz17) ?_
                  refine go_iload_n 28 (D d1_27) rfl rfl ?_
                  refine go_iload_n 29 (D d1_28) rfl rfl ?_
                  refine go_iadd 30 (z := (7 : Int32)) (D d1_29) rfl (by decide) ?_
                  refine go_ireturn hret hlk rfl (by simp) (D d1_30) (by decide) (by decide) ⟨_, rfl, ⟨(7 : Int32), rfl, rfl, (sz_p cz1 (nd_of (k := 7) (Or.inl (Nat.le_of_not_lt (fun z => cz16 ((thr_p cz1 (k := 1000000) (by decide) (by decide)).mpr z)))) (Or.inl ((thr_p cz1 (k := 10000000) (by decide) (by decide)).mp cz17)) (by decide) (by decide)) (by decide))⟩⟩ (Keep.refl h0 [])
                · refine go_icT 31 (D d1_24) (by decide) rfl (XT.ii_le_t cz17) ?_
                  refine go_bipush 33 (v := 10) (D d1_31) rfl rfl ?_
                  refine go_iload_n 34 (D d1_33) rfl rfl ?_
                  refine go_imul 35 (z := (-100000000 : Int32)) (D d1_34) rfl (by decide) ?_
                  refine go_istore_n 36 (ls' := #[vi (-p), vi 0, vi (-100000000 : Int32), vi 7]) (D d1_35) rfl rfl ?_
                  refine go_iinc 39 (ls' := #[vi (-p), vi 0, vi (-100000000 : Int32), vi 8]) (y := (8 : Int32)) (D d1_36) rfl rfl rfl rfl ?_
                  refine go_goto 16 (D d1_39) (by decide) rfl ?_
                  refine go_iload_n 17 (D d1_16) rfl rfl ?_
                  refine go_bipush 19 (v := 10) (D d1_17) rfl rfl ?_
                  refine go_icF 22 (D d1_19) rfl (by decide) ?_
                  refine go_iload_n 23 (D d1_22) rfl rfl ?_
                  refine go_iload_n 24 (D d1_23) rfl rfl ?_
                  by_cases cz18 : (-100000000 : Int32) < (-p)
                  · refine go_icF 27 (D d1_24) rfl (XT.ii_le_f cz18) ?_
                    refine go_iload_n 28 (D d1_27) rfl rfl ?_
                    refine go_iload_n 29 (D d1_28) rfl rfl ?_
                    refine go_iadd 30 (z := (8 : Int32)) (D d1_29) rfl (by decide) ?_
                    refine go_ireturn hret hlk rfl (by simp) (D d1_30) (by decide) (by decide) ⟨_, rfl, ⟨(8 : Int32), rfl, rfl, (sz_p cz1 (nd_of (k := 8) (Or.inl (Nat.le_of_not_lt (fun z => cz17 ((thr_p cz1 (k := 10000000) (by decide) (by decide)).mpr z)))) (Or.inl ((thr_p cz1 (k := 100000000) (by decide) (by decide)).mp cz18)) (by decide) (by decide)) (by decide))⟩⟩ (Keep.refl h0 [])
                  · refine go_icT 31 (D d1_24) (by decide) rfl (XT.ii_le_t cz18) ?_
                    refine go_bipush 33 (v := 10) (D d1_31) rfl rfl ?_
                    refine go_iload_n 34 (D d1_33) rfl rfl ?_
                    refine go_imul 35 (z := (-1000000000 : Int32)) (D d1_34) rfl (by decide) ?_
                    refine go_istore_n 36 (ls' := #[vi (-p), vi 0, vi (-1000000000 : Int32), vi 8]) (D d1_35) rfl rfl ?_
                    refine go_iinc 39 (ls' := #[vi (-p), vi 0, vi (-1000000000 : Int32), vi 9]) (y := (9 : Int32)) (D d1_36) rfl rfl rfl rfl ?_
                    refine go_goto 16 (D d1_39) (by decide) rfl ?_
                    refine go_iload_n 17 (D d1_16) rfl rfl ?_
                    refine go_bipush 19 (v := 10) (D d1_17) rfl rfl ?_
                    refine go_icF 22 (D d1_19) rfl (by decide) ?_
                    refine go_iload_n 23 (D d1_22) rfl rfl ?_
                    refine go_iload_n 24 (D d1_23) rfl rfl ?_
                    by_cases cz19 : (-1000000000 : Int32) < (-p)
                    · refine go_icF 27 (D d1_24) rfl (XT.ii_le_f cz19) ?_
                      refine go_iload_n 28 (D d1_27) rfl rfl ?_
                      refine go_iload_n 29 (D d1_28) rfl rfl ?_
                      refine go_iadd 30 (z := (9 : Int32)) (D d1_29) rfl (by decide) ?_
                      refine go_ireturn hret hlk rfl (by simp) (D d1_30) (by decide) (by decide) ⟨_, rfl, ⟨(9 : Int32), rfl, rfl, (sz_p cz1 (nd_of (k := 9) (Or.inl (Nat.le_of_not_lt (fun z => cz18 ((thr_p cz1 (k := 100000000) (by decide) (by decide)).mpr z)))) (Or.inl ((thr_p cz1 (k := 1000000000) (by decide) (by decide)).mp cz19)) (by decide) (by decide)) (by decide))⟩⟩ (Keep.refl h0 [])
                    · refine go_icT 31 (D d1_24) (by decide) rfl (XT.ii_le_t cz19) ?_
                      refine go_bipush 33 (v := 10) (D d1_31) rfl rfl ?_
                      refine go_iload_n 34 (D d1_33) rfl rfl ?_
                      refine go_imul 35 (z := (-1410065408 : Int32)) (D d1_34) rfl (by decide) ?_
                      refine go_istore_n 36 (ls' := #[vi (-p), vi 0, vi (-1410065408 : Int32), vi 9]) (D d1_35) rfl rfl ?_
                      refine go_iinc 39 (ls' := #[vi (-p), vi 0, vi (-1410065408 : Int32), vi 10]) (y := (10 : Int32)) (D d1_36) rfl rfl rfl rfl ?_
                      refine go_goto 16 (D d1_39) (by decide) rfl ?_
                      refine go_iload_n 17 (D d1_16) rfl rfl ?_
                      refine go_bipush 19 (v := 10) (D d1_17) rfl rfl ?_
                      refine go_icT 42 (D d1_19) (by decide) rfl (by decide) ?_
                      refine go_bipush 44 (v := 10) (D d1_42) rfl rfl ?_
                      refine go_iload_n 45 (D d1_44) rfl rfl ?_
                      refine go_iadd 46 (z := (10 : Int32)) (D d1_45) rfl (by decide) ?_
                      refine go_ireturn hret hlk rfl (by simp) (D d1_46) (by decide) (by decide) ⟨_, rfl, ⟨(10 : Int32), rfl, rfl, (sz_p cz1 (nd_of (k := 10) (Or.inl (Nat.le_of_not_lt (fun z => cz19 ((thr_p cz1 (k := 1000000000) (by decide) (by decide)).mpr z)))) (Or.inr rfl) (by decide) (by decide)) (by decide))⟩⟩ (Keep.refl h0 [])
theorem ef2 (m : MethodId) (v0 v1 : Int32) (v2 : Addr) : entryFrame m #[(.int v0), (.int v1), (.ref v2)] 7 = mkF m 0 #[.val (.int v0), .val (.int v1), .val (.ref v2), .unset, .unset, .unset, .unset] [] := by first | (simp [entryFrame, mkF, argsToLocals, Value.category]; done) | rfl
def Q_getch (Z : State) (p u : Int32) (a : Addr) (k : ClassId) (L : List Value) (n0 : Nat) (h0 : Heap) (xv : Value) (h : Heap) : Prop := ∃ (r : Int32), (.int r) = xv ∧ Arv Z h a k (.byte) (16 : Int32) (tk L n0 ((rep p).map Value.int) (n0 + (rep p).length)) (.int 0)
theorem c_getch (G : GH Z a0) (p u : Int32) (a : Addr) (k : ClassId) (L : List Value) (n0 : Nat) (h0 : Heap) (O0 : Old Z Z.heap.size h0) (p1 : Z.heap.size ≤ a) (p2 : u = Int32.ofNat (n0 + (rep p).length)) (p3 : n0 ≤ 3) (p4 : L.length = 16) (p5 : Arv Z h0 a k (.byte) (16 : Int32) L (.int 0)) : Con false [] l Z (⟨"java/lang/Integer", "getChars", "(II[B)I"⟩ : MethodName) jdk_33_method_12_code 7 (some .int) [] (rm4 0 0 0 0) #[(.int p), (.int u), (.ref a)] h0 [a] (rvl (Q_getch Z p u a k L n0 h0)) := by
  refine conN G (plainFor_of_name pn1) O0 (fun m => ef2 m p u a) ?_
  intro _ _ _ m_ _ _ _ D hml hret hlk hnm
  subst p2
  refine go_iload_n 1 (D d2_0) rfl rfl ?_
  refine go_istore 3 (ls' := #[vi p, vi (Int32.ofNat (n0 + (rep p).length)), vr a, un, un, vi (Int32.ofNat (n0 + (rep p).length)), un]) (D d2_1) rfl rfl ?_
  refine go_iload_n 4 (D d2_3) rfl rfl ?_
  by_cases cz1 : p < (0 : Int32)
  · refine go_ifF 7 (D d2_4) rfl (XT.i0_ge_f cz1) ?_
    refine go_iconst 8 (v := 1) (D d2_7) rfl rfl ?_
    refine go_goto 12 (D d2_8) (by decide) rfl ?_
    refine go_istore 14 (ls' := #[vi p, vi (Int32.ofNat (n0 + (rep p).length)), vr a, un, un, vi (Int32.ofNat (n0 + (rep p).length)), vi 1]) (D d2_12) rfl rfl ?_
    refine go_iload 16 (D d2_14) rfl rfl ?_
    refine go_ifT 22 (D d2_16) (by decide) rfl (by decide) ?_
    rcases ndg_c (mag p) with ⟨n2, n4⟩ | ⟨n2, n3, n4⟩ | ⟨n2, n3, n4⟩ | ⟨n2, n3, n4⟩ | ⟨n2, n3, n4⟩ | ⟨n2, n3, n4⟩ | ⟨n2, n3, n4⟩ | ⟨n2, n3, n4⟩ | ⟨n2, n3, n4⟩ | ⟨n2, n3⟩
    · have n5 : (rep p).length = 2 := rl_n cz1 n2 rfl
      refine go_eqf (g' := mkF m_ 22 #[.val (.int (ng (mag p))), .val (.int (Int32.ofNat (n0 + (rep p).length))), .val (.ref a), .unset, .unset, .val (.int (Int32.ofNat (n0 + 2))), .val (.int 1)] []) (by rw [← ng_neg cz1, n5]) ?_
      have A6 : Arv Z h0 a k .byte (16 : Int32) (tk L (n0 + 2) [] (n0 + 2)) (.int 0) := by rw [tk_start]; exact p5
      refine go_iload_n 23 (D d2_22) rfl rfl ?_
      refine go_bipush 25 (v := (-100)) (D d2_23) rfl rfl ?_
      refine go_icT 72 (D d2_25) (by decide) rfl (XT.ii_gt_t ((ng_le (k := 100) (by have := mag_le p; omega) (by decide) (by decide)).mpr (by omega))) ?_
      refine go_aload_n 73 (D d2_72) rfl rfl rfl ?_
      refine go_iinc 76 (ls' := #[vi (ng (mag p)), vi (Int32.ofNat (n0 + (rep p).length)), vr a, un, un, vi (Int32.ofNat (n0 + 1)), vi 1]) (y := (Int32.ofNat (n0 + 1))) (D d2_73) rfl rfl (ofn_dec (n := n0 + 1) (by omega)) rfl ?_
      refine go_iload 78 (D d2_76) rfl rfl ?_
      refine go_getS 81 (wk G 136) ((st_DO G).ext O0.2) (D d2_78) rfl ?_
      refine go_iload_n 82 (D d2_81) rfl rfl ?_
      refine go_ineg 83 (z := (Int32.ofNat (mag p))) (D d2_82) rfl (ng_ng (by omega)) ?_
      refine go_tabO 84 G (n := (mag p)) (v := (dch (mag p))) (by omega) (by unfold dch; congr 1 <;> omega) (D d2_83) rfl ?_
      refine go_stT 85 (i := n0 + 1) (x' := (dch (mag p))) rfl A6 p4 (by simp only [List.length_cons, List.length_nil] <;> omega) (by omega) p1 (dch_i8 _) (D d2_84) rfl (fun h7 W8 A9 => ?_)
      refine go_iload_n 86 (D d2_85) rfl rfl ?_
      refine go_bipush 88 (v := (-9)) (D d2_86) rfl rfl ?_
      refine go_icT 104 (D d2_88) (by decide) rfl (XT.ii_ge_t (fun z => absurd ((ng_lt (k := 9) (by have := mag_le p; omega) (by decide) (by decide)).mp z) (by omega))) ?_
      refine go_iload 106 (D d2_104) rfl rfl ?_
      refine go_ifF 109 (D d2_106) rfl (by decide) ?_
      refine go_aload_n 110 (D d2_109) rfl rfl rfl ?_
      refine go_iinc 113 (ls' := #[vi (ng (mag p)), vi (Int32.ofNat (n0 + (rep p).length)), vr a, un, un, vi (Int32.ofNat (n0 + 0)), vi 1]) (y := (Int32.ofNat (n0 + 0))) (D d2_110) rfl rfl (ofn_dec (n := n0 + 0) (by omega)) rfl ?_
      refine go_iload 115 (D d2_113) rfl rfl ?_
      refine go_bipush 117 (v := 45) (D d2_115) rfl rfl ?_
      refine go_stT 118 (i := n0 + 0) (x' := (45 : Int32)) rfl A9 p4 (by simp only [List.length_cons, List.length_nil] <;> omega) (by omega) p1 (by decide) (D d2_117) rfl (fun h10 W11 A12 => ?_)
      refine go_iload 120 (D d2_118) rfl rfl ?_
      have K13 : Keep h0 h7 [a] := ((Keep.refl h0 [a]).wr W8 (Or.inl (by simp)))
      have K14 : Keep h0 h10 [a] := (K13.wr W11 (Or.inl (by simp)))
      refine go_ireturn hret hlk rfl (by simp) (D d2_120) (by decide) (by decide) ⟨_, rfl, ⟨(Int32.ofNat (n0 + 0)), rfl, ((show tk L (n0 + 0) [(.int 45), (.int (dch (mag p)))] (n0 + 2) = tk L n0 ((rep p).map Value.int) (n0 + (rep p).length) from by rw [n5, rep_n cz1 n2]; rfl) ▸ A12)⟩⟩ K14
    · have n15 : (rep p).length = 3 := rl_n cz1 n2 rfl
      refine go_eqf (g' := mkF m_ 22 #[.val (.int (ng (mag p))), .val (.int (Int32.ofNat (n0 + (rep p).length))), .val (.ref a), .unset, .unset, .val (.int (Int32.ofNat (n0 + 3))), .val (.int 1)] []) (by rw [← ng_neg cz1, n15]) ?_
      have A16 : Arv Z h0 a k .byte (16 : Int32) (tk L (n0 + 3) [] (n0 + 3)) (.int 0) := by rw [tk_start]; exact p5
      refine go_iload_n 23 (D d2_22) rfl rfl ?_
      refine go_bipush 25 (v := (-100)) (D d2_23) rfl rfl ?_
      refine go_icT 72 (D d2_25) (by decide) rfl (XT.ii_gt_t ((ng_le (k := 100) (by have := mag_le p; omega) (by decide) (by decide)).mpr (by omega))) ?_
      refine go_aload_n 73 (D d2_72) rfl rfl rfl ?_
      refine go_iinc 76 (ls' := #[vi (ng (mag p)), vi (Int32.ofNat (n0 + (rep p).length)), vr a, un, un, vi (Int32.ofNat (n0 + 2)), vi 1]) (y := (Int32.ofNat (n0 + 2))) (D d2_73) rfl rfl (ofn_dec (n := n0 + 2) (by omega)) rfl ?_
      refine go_iload 78 (D d2_76) rfl rfl ?_
      refine go_getS 81 (wk G 136) ((st_DO G).ext O0.2) (D d2_78) rfl ?_
      refine go_iload_n 82 (D d2_81) rfl rfl ?_
      refine go_ineg 83 (z := (Int32.ofNat (mag p))) (D d2_82) rfl (ng_ng (by omega)) ?_
      refine go_tabO 84 G (n := (mag p)) (v := (dch (mag p))) (by omega) (by unfold dch; congr 1 <;> omega) (D d2_83) rfl ?_
      refine go_stT 85 (i := n0 + 2) (x' := (dch (mag p))) rfl A16 p4 (by simp only [List.length_cons, List.length_nil] <;> omega) (by omega) p1 (dch_i8 _) (D d2_84) rfl (fun h17 W18 A19 => ?_)
      refine go_iload_n 86 (D d2_85) rfl rfl ?_
      refine go_bipush 88 (v := (-9)) (D d2_86) rfl rfl ?_
      refine go_icF 91 (D d2_88) rfl (XT.ii_ge_f ((ng_lt (k := 9) (by have := mag_le p; omega) (by decide) (by decide)).mpr (by omega))) ?_
      refine go_aload_n 92 (D d2_91) rfl rfl rfl ?_
      refine go_iinc 95 (ls' := #[vi (ng (mag p)), vi (Int32.ofNat (n0 + (rep p).length)), vr a, un, un, vi (Int32.ofNat (n0 + 1)), vi 1]) (y := (Int32.ofNat (n0 + 1))) (D d2_92) rfl rfl (ofn_dec (n := n0 + 1) (by omega)) rfl ?_
      refine go_iload 97 (D d2_95) rfl rfl ?_
      refine go_old (fun O20 => ?_)
      refine go_getS 100 (wk G 221) ((st_DT G).ext O20.2) (D d2_97) rfl ?_
      refine go_iload_n 101 (D d2_100) rfl rfl ?_
      refine go_ineg 102 (z := (Int32.ofNat (mag p))) (D d2_101) rfl (ng_ng (by omega)) ?_
      refine go_tabT 103 G (n := (mag p)) (v := (dch ((mag p) / 10))) (by omega) (by unfold dch; congr 1 <;> omega) (D d2_102) rfl ?_
      refine go_stT 104 (i := n0 + 1) (x' := (dch ((mag p) / 10))) rfl A19 p4 (by simp only [List.length_cons, List.length_nil] <;> omega) (by omega) p1 (dch_i8 _) (D d2_103) rfl (fun h21 W22 A23 => ?_)
      refine go_iload 106 (D d2_104) rfl rfl ?_
      refine go_ifF 109 (D d2_106) rfl (by decide) ?_
      refine go_aload_n 110 (D d2_109) rfl rfl rfl ?_
      refine go_iinc 113 (ls' := #[vi (ng (mag p)), vi (Int32.ofNat (n0 + (rep p).length)), vr a, un, un, vi (Int32.ofNat (n0 + 0)), vi 1]) (y := (Int32.ofNat (n0 + 0))) (D d2_110) rfl rfl (ofn_dec (n := n0 + 0) (by omega)) rfl ?_
      refine go_iload 115 (D d2_113) rfl rfl ?_
      refine go_bipush 117 (v := 45) (D d2_115) rfl rfl ?_
      refine go_stT 118 (i := n0 + 0) (x' := (45 : Int32)) rfl A23 p4 (by simp only [List.length_cons, List.length_nil] <;> omega) (by omega) p1 (by decide) (D d2_117) rfl (fun h24 W25 A26 => ?_)
      refine go_iload 120 (D d2_118) rfl rfl ?_
      have K27 : Keep h0 h17 [a] := ((Keep.refl h0 [a]).wr W18 (Or.inl (by simp)))
      have K28 : Keep h0 h21 [a] := (K27.wr W22 (Or.inl (by simp)))
      have K29 : Keep h0 h24 [a] := (K28.wr W25 (Or.inl (by simp)))
      refine go_ireturn hret hlk rfl (by simp) (D d2_120) (by decide) (by decide) ⟨_, rfl, ⟨(Int32.ofNat (n0 + 0)), rfl, ((show tk L (n0 + 0) [(.int 45), (.int (dch ((mag p) / 10))), (.int (dch (mag p)))] (n0 + 3) = tk L n0 ((rep p).map Value.int) (n0 + (rep p).length) from by rw [n15, rep_n cz1 n2]; rfl) ▸ A26)⟩⟩ K29
    · have n30 : (rep p).length = 4 := rl_n cz1 n2 rfl
      refine go_eqf (g' := mkF m_ 22 #[.val (.int (ng (mag p))), .val (.int (Int32.ofNat (n0 + (rep p).length))), .val (.ref a), .unset, .unset, .val (.int (Int32.ofNat (n0 + 4))), .val (.int 1)] []) (by rw [← ng_neg cz1, n30]) ?_
      have A31 : Arv Z h0 a k .byte (16 : Int32) (tk L (n0 + 4) [] (n0 + 4)) (.int 0) := by rw [tk_start]; exact p5
      refine go_iload_n 23 (D d2_22) rfl rfl ?_
      refine go_bipush 25 (v := (-100)) (D d2_23) rfl rfl ?_
      refine go_icF 28 (D d2_25) rfl (XT.ii_gt_f (fun z => absurd ((ng_le (k := 100) (by have := mag_le p; omega) (by decide) (by decide)).mp z) (by omega))) ?_
      refine go_iload_n 29 (D d2_28) rfl rfl ?_
      refine go_bipush 31 (v := 100) (D d2_29) rfl rfl ?_
      refine go_idiv 32 (z := (ng ((mag p) / 10 / 10))) (D d2_31) rfl (by decide) (ng_div2 (by have := mag_le p; omega)) ?_
      refine go_istore_n 33 (ls' := #[vi (ng (mag p)), vi (Int32.ofNat (n0 + (rep p).length)), vr a, vi (ng ((mag p) / 10 / 10)), un, vi (Int32.ofNat (n0 + 4)), vi 1]) (D d2_32) rfl rfl ?_
      refine go_iload_n 34 (D d2_33) rfl rfl ?_
      refine go_bipush 36 (v := 100) (D d2_34) rfl rfl ?_
      refine go_imul 37 (z := ((ng ((mag p) / 10 / 10)) * (100 : Int32))) (D d2_36) rfl rfl ?_
      refine go_iload_n 38 (D d2_37) rfl rfl ?_
      refine go_isub 39 (z := (Int32.ofNat ((mag p) % 100))) (D d2_38) rfl (ng_rem2 (by have := mag_le p; omega)) ?_
      refine go_istore 41 (ls' := #[vi (ng (mag p)), vi (Int32.ofNat (n0 + (rep p).length)), vr a, vi (ng ((mag p) / 10 / 10)), vi (Int32.ofNat ((mag p) % 100)), vi (Int32.ofNat (n0 + 4)), vi 1]) (D d2_39) rfl rfl ?_
      refine go_iload_n 42 (D d2_41) rfl rfl ?_
      refine go_istore_n 43 (ls' := #[vi (ng ((mag p) / 10 / 10)), vi (Int32.ofNat (n0 + (rep p).length)), vr a, vi (ng ((mag p) / 10 / 10)), vi (Int32.ofNat ((mag p) % 100)), vi (Int32.ofNat (n0 + 4)), vi 1]) (D d2_42) rfl rfl ?_
      refine go_aload_n 44 (D d2_43) rfl rfl rfl ?_
      refine go_iinc 47 (ls' := #[vi (ng ((mag p) / 10 / 10)), vi (Int32.ofNat (n0 + (rep p).length)), vr a, vi (ng ((mag p) / 10 / 10)), vi (Int32.ofNat ((mag p) % 100)), vi (Int32.ofNat (n0 + 3)), vi 1]) (y := (Int32.ofNat (n0 + 3))) (D d2_44) rfl rfl (ofn_dec (n := n0 + 3) (by omega)) rfl ?_
      refine go_iload 49 (D d2_47) rfl rfl ?_
      refine go_getS 52 (wk G 136) ((st_DO G).ext O0.2) (D d2_49) rfl ?_
      refine go_iload 54 (D d2_52) rfl rfl ?_
      refine go_tabO 55 G (n := (mag p) % 100) (v := (dch (mag p))) (by omega) (by unfold dch; congr 1 <;> omega) (D d2_54) rfl ?_
      refine go_stT 56 (i := n0 + 3) (x' := (dch (mag p))) rfl A31 p4 (by simp only [List.length_cons, List.length_nil] <;> omega) (by omega) p1 (dch_i8 _) (D d2_55) rfl (fun h32 W33 A34 => ?_)
      refine go_aload_n 57 (D d2_56) rfl rfl rfl ?_
      refine go_iinc 60 (ls' := #[vi (ng ((mag p) / 10 / 10)), vi (Int32.ofNat (n0 + (rep p).length)), vr a, vi (ng ((mag p) / 10 / 10)), vi (Int32.ofNat ((mag p) % 100)), vi (Int32.ofNat (n0 + 2)), vi 1]) (y := (Int32.ofNat (n0 + 2))) (D d2_57) rfl rfl (ofn_dec (n := n0 + 2) (by omega)) rfl ?_
      refine go_iload 62 (D d2_60) rfl rfl ?_
      refine go_old (fun O35 => ?_)
      refine go_getS 65 (wk G 221) ((st_DT G).ext O35.2) (D d2_62) rfl ?_
      refine go_iload 67 (D d2_65) rfl rfl ?_
      refine go_tabT 68 G (n := (mag p) % 100) (v := (dch ((mag p) / 10))) (by omega) (by unfold dch; congr 1 <;> omega) (D d2_67) rfl ?_
      refine go_stT 69 (i := n0 + 2) (x' := (dch ((mag p) / 10))) rfl A34 p4 (by simp only [List.length_cons, List.length_nil] <;> omega) (by omega) p1 (dch_i8 _) (D d2_68) rfl (fun h36 W37 A38 => ?_)
      refine go_goto 22 (D d2_69) (by decide) rfl ?_
      refine go_iload_n 23 (D d2_22) rfl rfl ?_
      refine go_bipush 25 (v := (-100)) (D d2_23) rfl rfl ?_
      refine go_icT 72 (D d2_25) (by decide) rfl (XT.ii_gt_t ((ng_le (k := 100) (by have := mag_le p; omega) (by decide) (by decide)).mpr (by omega))) ?_
      refine go_aload_n 73 (D d2_72) rfl rfl rfl ?_
      refine go_iinc 76 (ls' := #[vi (ng ((mag p) / 10 / 10)), vi (Int32.ofNat (n0 + (rep p).length)), vr a, vi (ng ((mag p) / 10 / 10)), vi (Int32.ofNat ((mag p) % 100)), vi (Int32.ofNat (n0 + 1)), vi 1]) (y := (Int32.ofNat (n0 + 1))) (D d2_73) rfl rfl (ofn_dec (n := n0 + 1) (by omega)) rfl ?_
      refine go_iload 78 (D d2_76) rfl rfl ?_
      refine go_old (fun O39 => ?_)
      refine go_getS 81 (wk G 136) ((st_DO G).ext O39.2) (D d2_78) rfl ?_
      refine go_iload_n 82 (D d2_81) rfl rfl ?_
      refine go_ineg 83 (z := (Int32.ofNat ((mag p) / 10 / 10))) (D d2_82) rfl (ng_ng (by omega)) ?_
      refine go_tabO 84 G (n := ((mag p) / 10 / 10)) (v := (dch ((mag p) / 10 / 10))) (by omega) (by unfold dch; congr 1 <;> omega) (D d2_83) rfl ?_
      refine go_stT 85 (i := n0 + 1) (x' := (dch ((mag p) / 10 / 10))) rfl A38 p4 (by simp only [List.length_cons, List.length_nil] <;> omega) (by omega) p1 (dch_i8 _) (D d2_84) rfl (fun h40 W41 A42 => ?_)
      refine go_iload_n 86 (D d2_85) rfl rfl ?_
      refine go_bipush 88 (v := (-9)) (D d2_86) rfl rfl ?_
      refine go_icT 104 (D d2_88) (by decide) rfl (XT.ii_ge_t (fun z => absurd ((ng_lt (k := 9) (by have := mag_le p; omega) (by decide) (by decide)).mp z) (by omega))) ?_
      refine go_iload 106 (D d2_104) rfl rfl ?_
      refine go_ifF 109 (D d2_106) rfl (by decide) ?_
      refine go_aload_n 110 (D d2_109) rfl rfl rfl ?_
      refine go_iinc 113 (ls' := #[vi (ng ((mag p) / 10 / 10)), vi (Int32.ofNat (n0 + (rep p).length)), vr a, vi (ng ((mag p) / 10 / 10)), vi (Int32.ofNat ((mag p) % 100)), vi (Int32.ofNat (n0 + 0)), vi 1]) (y := (Int32.ofNat (n0 + 0))) (D d2_110) rfl rfl (ofn_dec (n := n0 + 0) (by omega)) rfl ?_
      refine go_iload 115 (D d2_113) rfl rfl ?_
      refine go_bipush 117 (v := 45) (D d2_115) rfl rfl ?_
      refine go_stT 118 (i := n0 + 0) (x' := (45 : Int32)) rfl A42 p4 (by simp only [List.length_cons, List.length_nil] <;> omega) (by omega) p1 (by decide) (D d2_117) rfl (fun h43 W44 A45 => ?_)
      refine go_iload 120 (D d2_118) rfl rfl ?_
      have K46 : Keep h0 h32 [a] := ((Keep.refl h0 [a]).wr W33 (Or.inl (by simp)))
      have K47 : Keep h0 h36 [a] := (K46.wr W37 (Or.inl (by simp)))
      have K48 : Keep h0 h40 [a] := (K47.wr W41 (Or.inl (by simp)))
      have K49 : Keep h0 h43 [a] := (K48.wr W44 (Or.inl (by simp)))
      refine go_ireturn hret hlk rfl (by simp) (D d2_120) (by decide) (by decide) ⟨_, rfl, ⟨(Int32.ofNat (n0 + 0)), rfl, ((show tk L (n0 + 0) [(.int 45), (.int (dch ((mag p) / 10 / 10))), (.int (dch ((mag p) / 10))), (.int (dch (mag p)))] (n0 + 4) = tk L n0 ((rep p).map Value.int) (n0 + (rep p).length) from by rw [n30, rep_n cz1 n2]; rfl) ▸ A45)⟩⟩ K49
    · have n50 : (rep p).length = 5 := rl_n cz1 n2 rfl
      refine go_eqf (g' := mkF m_ 22 #[.val (.int (ng (mag p))), .val (.int (Int32.ofNat (n0 + (rep p).length))), .val (.ref a), .unset, .unset, .val (.int (Int32.ofNat (n0 + 5))), .val (.int 1)] []) (by rw [← ng_neg cz1, n50]) ?_
      have A51 : Arv Z h0 a k .byte (16 : Int32) (tk L (n0 + 5) [] (n0 + 5)) (.int 0) := by rw [tk_start]; exact p5
      refine go_iload_n 23 (D d2_22) rfl rfl ?_
      refine go_bipush 25 (v := (-100)) (D d2_23) rfl rfl ?_
      refine go_icF 28 (D d2_25) rfl (XT.ii_gt_f (fun z => absurd ((ng_le (k := 100) (by have := mag_le p; omega) (by decide) (by decide)).mp z) (by omega))) ?_
      refine go_iload_n 29 (D d2_28) rfl rfl ?_
      refine go_bipush 31 (v := 100) (D d2_29) rfl rfl ?_
      refine go_idiv 32 (z := (ng ((mag p) / 10 / 10))) (D d2_31) rfl (by decide) (ng_div2 (by have := mag_le p; omega)) ?_
      refine go_istore_n 33 (ls' := #[vi (ng (mag p)), vi (Int32.ofNat (n0 + (rep p).length)), vr a, vi (ng ((mag p) / 10 / 10)), un, vi (Int32.ofNat (n0 + 5)), vi 1]) (D d2_32) rfl rfl ?_
      refine go_iload_n 34 (D d2_33) rfl rfl ?_
      refine go_bipush 36 (v := 100) (D d2_34) rfl rfl ?_
      refine go_imul 37 (z := ((ng ((mag p) / 10 / 10)) * (100 : Int32))) (D d2_36) rfl rfl ?_
      refine go_iload_n 38 (D d2_37) rfl rfl ?_
      refine go_isub 39 (z := (Int32.ofNat ((mag p) % 100))) (D d2_38) rfl (ng_rem2 (by have := mag_le p; omega)) ?_
      refine go_istore 41 (ls' := #[vi (ng (mag p)), vi (Int32.ofNat (n0 + (rep p).length)), vr a, vi (ng ((mag p) / 10 / 10)), vi (Int32.ofNat ((mag p) % 100)), vi (Int32.ofNat (n0 + 5)), vi 1]) (D d2_39) rfl rfl ?_
      refine go_iload_n 42 (D d2_41) rfl rfl ?_
      refine go_istore_n 43 (ls' := #[vi (ng ((mag p) / 10 / 10)), vi (Int32.ofNat (n0 + (rep p).length)), vr a, vi (ng ((mag p) / 10 / 10)), vi (Int32.ofNat ((mag p) % 100)), vi (Int32.ofNat (n0 + 5)), vi 1]) (D d2_42) rfl rfl ?_
      refine go_aload_n 44 (D d2_43) rfl rfl rfl ?_
      refine go_iinc 47 (ls' := #[vi (ng ((mag p) / 10 / 10)), vi (Int32.ofNat (n0 + (rep p).length)), vr a, vi (ng ((mag p) / 10 / 10)), vi (Int32.ofNat ((mag p) % 100)), vi (Int32.ofNat (n0 + 4)), vi 1]) (y := (Int32.ofNat (n0 + 4))) (D d2_44) rfl rfl (ofn_dec (n := n0 + 4) (by omega)) rfl ?_
      refine go_iload 49 (D d2_47) rfl rfl ?_
      refine go_getS 52 (wk G 136) ((st_DO G).ext O0.2) (D d2_49) rfl ?_
      refine go_iload 54 (D d2_52) rfl rfl ?_
      refine go_tabO 55 G (n := (mag p) % 100) (v := (dch (mag p))) (by omega) (by unfold dch; congr 1 <;> omega) (D d2_54) rfl ?_
      refine go_stT 56 (i := n0 + 4) (x' := (dch (mag p))) rfl A51 p4 (by simp only [List.length_cons, List.length_nil] <;> omega) (by omega) p1 (dch_i8 _) (D d2_55) rfl (fun h52 W53 A54 => ?_)
      refine go_aload_n 57 (D d2_56) rfl rfl rfl ?_
      refine go_iinc 60 (ls' := #[vi (ng ((mag p) / 10 / 10)), vi (Int32.ofNat (n0 + (rep p).length)), vr a, vi (ng ((mag p) / 10 / 10)), vi (Int32.ofNat ((mag p) % 100)), vi (Int32.ofNat (n0 + 3)), vi 1]) (y := (Int32.ofNat (n0 + 3))) (D d2_57) rfl rfl (ofn_dec (n := n0 + 3) (by omega)) rfl ?_
      refine go_iload 62 (D d2_60) rfl rfl ?_
      refine go_old (fun O55 => ?_)
      refine go_getS 65 (wk G 221) ((st_DT G).ext O55.2) (D d2_62) rfl ?_
      refine go_iload 67 (D d2_65) rfl rfl ?_
      refine go_tabT 68 G (n := (mag p) % 100) (v := (dch ((mag p) / 10))) (by omega) (by unfold dch; congr 1 <;> omega) (D d2_67) rfl ?_
      refine go_stT 69 (i := n0 + 3) (x' := (dch ((mag p) / 10))) rfl A54 p4 (by simp only [List.length_cons, List.length_nil] <;> omega) (by omega) p1 (dch_i8 _) (D d2_68) rfl (fun h56 W57 A58 => ?_)
      refine go_goto 22 (D d2_69) (by decide) rfl ?_
      refine go_iload_n 23 (D d2_22) rfl rfl ?_
      refine go_bipush 25 (v := (-100)) (D d2_23) rfl rfl ?_
      refine go_icT 72 (D d2_25) (by decide) rfl (XT.ii_gt_t ((ng_le (k := 100) (by have := mag_le p; omega) (by decide) (by decide)).mpr (by omega))) ?_
      refine go_aload_n 73 (D d2_72) rfl rfl rfl ?_
      refine go_iinc 76 (ls' := #[vi (ng ((mag p) / 10 / 10)), vi (Int32.ofNat (n0 + (rep p).length)), vr a, vi (ng ((mag p) / 10 / 10)), vi (Int32.ofNat ((mag p) % 100)), vi (Int32.ofNat (n0 + 2)), vi 1]) (y := (Int32.ofNat (n0 + 2))) (D d2_73) rfl rfl (ofn_dec (n := n0 + 2) (by omega)) rfl ?_
      refine go_iload 78 (D d2_76) rfl rfl ?_
      refine go_old (fun O59 => ?_)
      refine go_getS 81 (wk G 136) ((st_DO G).ext O59.2) (D d2_78) rfl ?_
      refine go_iload_n 82 (D d2_81) rfl rfl ?_
      refine go_ineg 83 (z := (Int32.ofNat ((mag p) / 10 / 10))) (D d2_82) rfl (ng_ng (by omega)) ?_
      refine go_tabO 84 G (n := ((mag p) / 10 / 10)) (v := (dch ((mag p) / 10 / 10))) (by omega) (by unfold dch; congr 1 <;> omega) (D d2_83) rfl ?_
      refine go_stT 85 (i := n0 + 2) (x' := (dch ((mag p) / 10 / 10))) rfl A58 p4 (by simp only [List.length_cons, List.length_nil] <;> omega) (by omega) p1 (dch_i8 _) (D d2_84) rfl (fun h60 W61 A62 => ?_)
      refine go_iload_n 86 (D d2_85) rfl rfl ?_
      refine go_bipush 88 (v := (-9)) (D d2_86) rfl rfl ?_
      refine go_icF 91 (D d2_88) rfl (XT.ii_ge_f ((ng_lt (k := 9) (by have := mag_le p; omega) (by decide) (by decide)).mpr (by omega))) ?_
      refine go_aload_n 92 (D d2_91) rfl rfl rfl ?_
      refine go_iinc 95 (ls' := #[vi (ng ((mag p) / 10 / 10)), vi (Int32.ofNat (n0 + (rep p).length)), vr a, vi (ng ((mag p) / 10 / 10)), vi (Int32.ofNat ((mag p) % 100)), vi (Int32.ofNat (n0 + 1)), vi 1]) (y := (Int32.ofNat (n0 + 1))) (D d2_92) rfl rfl (ofn_dec (n := n0 + 1) (by omega)) rfl ?_
      refine go_iload 97 (D d2_95) rfl rfl ?_
      refine go_old (fun O63 => ?_)
      refine go_getS 100 (wk G 221) ((st_DT G).ext O63.2) (D d2_97) rfl ?_
      refine go_iload_n 101 (D d2_100) rfl rfl ?_
      refine go_ineg 102 (z := (Int32.ofNat ((mag p) / 10 / 10))) (D d2_101) rfl (ng_ng (by omega)) ?_
      refine go_tabT 103 G (n := ((mag p) / 10 / 10)) (v := (dch (((mag p) / 10 / 10) / 10))) (by omega) (by unfold dch; congr 1 <;> omega) (D d2_102) rfl ?_
      refine go_stT 104 (i := n0 + 1) (x' := (dch (((mag p) / 10 / 10) / 10))) rfl A62 p4 (by simp only [List.length_cons, List.length_nil] <;> omega) (by omega) p1 (dch_i8 _) (D d2_103) rfl (fun h64 W65 A66 => ?_)
      refine go_iload 106 (D d2_104) rfl rfl ?_
      refine go_ifF 109 (D d2_106) rfl (by decide) ?_
      refine go_aload_n 110 (D d2_109) rfl rfl rfl ?_
      refine go_iinc 113 (ls' := #[vi (ng ((mag p) / 10 / 10)), vi (Int32.ofNat (n0 + (rep p).length)), vr a, vi (ng ((mag p) / 10 / 10)), vi (Int32.ofNat ((mag p) % 100)), vi (Int32.ofNat (n0 + 0)), vi 1]) (y := (Int32.ofNat (n0 + 0))) (D d2_110) rfl rfl (ofn_dec (n := n0 + 0) (by omega)) rfl ?_
      refine go_iload 115 (D d2_113) rfl rfl ?_
      refine go_bipush 117 (v := 45) (D d2_115) rfl rfl ?_
      refine go_stT 118 (i := n0 + 0) (x' := (45 : Int32)) rfl A66 p4 (by simp only [List.length_cons, List.length_nil] <;> omega) (by omega) p1 (by decide) (D d2_117) rfl (fun h67 W68 A69 => ?_)
      refine go_iload 120 (D d2_118) rfl rfl ?_
      have K70 : Keep h0 h52 [a] := ((Keep.refl h0 [a]).wr W53 (Or.inl (by simp)))
      have K71 : Keep h0 h56 [a] := (K70.wr W57 (Or.inl (by simp)))
      have K72 : Keep h0 h60 [a] := (K71.wr W61 (Or.inl (by simp)))
      have K73 : Keep h0 h64 [a] := (K72.wr W65 (Or.inl (by simp)))
      have K74 : Keep h0 h67 [a] := (K73.wr W68 (Or.inl (by simp)))
      refine go_ireturn hret hlk rfl (by simp) (D d2_120) (by decide) (by decide) ⟨_, rfl, ⟨(Int32.ofNat (n0 + 0)), rfl, ((show tk L (n0 + 0) [(.int 45), (.int (dch (((mag p) / 10 / 10) / 10))), (.int (dch ((mag p) / 10 / 10))), (.int (dch ((mag p) / 10))), (.int (dch (mag p)))] (n0 + 5) = tk L n0 ((rep p).map Value.int) (n0 + (rep p).length) from by rw [n50, rep_n cz1 n2]; rfl) ▸ A69)⟩⟩ K74
    · have n75 : (rep p).length = 6 := rl_n cz1 n2 rfl
      refine go_eqf (g' := mkF m_ 22 #[.val (.int (ng (mag p))), .val (.int (Int32.ofNat (n0 + (rep p).length))), .val (.ref a), .unset, .unset, .val (.int (Int32.ofNat (n0 + 6))), .val (.int 1)] []) (by rw [← ng_neg cz1, n75]) ?_
      have A76 : Arv Z h0 a k .byte (16 : Int32) (tk L (n0 + 6) [] (n0 + 6)) (.int 0) := by rw [tk_start]; exact p5
      refine go_iload_n 23 (D d2_22) rfl rfl ?_
      refine go_bipush 25 (v := (-100)) (D d2_23) rfl rfl ?_
      refine go_icF 28 (D d2_25) rfl (XT.ii_gt_f (fun z => absurd ((ng_le (k := 100) (by have := mag_le p; omega) (by decide) (by decide)).mp z) (by omega))) ?_
      refine go_iload_n 29 (D d2_28) rfl rfl ?_
      refine go_bipush 31 (v := 100) (D d2_29) rfl rfl ?_
      refine go_idiv 32 (z := (ng ((mag p) / 10 / 10))) (D d2_31) rfl (by decide) (ng_div2 (by have := mag_le p; omega)) ?_
      refine go_istore_n 33 (ls' := #[vi (ng (mag p)), vi (Int32.ofNat (n0 + (rep p).length)), vr a, vi (ng ((mag p) / 10 / 10)), un, vi (Int32.ofNat (n0 + 6)), vi 1]) (D d2_32) rfl rfl ?_
      refine go_iload_n 34 (D d2_33) rfl rfl ?_
      refine go_bipush 36 (v := 100) (D d2_34) rfl rfl ?_
      refine go_imul 37 (z := ((ng ((mag p) / 10 / 10)) * (100 : Int32))) (D d2_36) rfl rfl ?_
      refine go_iload_n 38 (D d2_37) rfl rfl ?_
      refine go_isub 39 (z := (Int32.ofNat ((mag p) % 100))) (D d2_38) rfl (ng_rem2 (by have := mag_le p; omega)) ?_
      refine go_istore 41 (ls' := #[vi (ng (mag p)), vi (Int32.ofNat (n0 + (rep p).length)), vr a, vi (ng ((mag p) / 10 / 10)), vi (Int32.ofNat ((mag p) % 100)), vi (Int32.ofNat (n0 + 6)), vi 1]) (D d2_39) rfl rfl ?_
      refine go_iload_n 42 (D d2_41) rfl rfl ?_
      refine go_istore_n 43 (ls' := #[vi (ng ((mag p) / 10 / 10)), vi (Int32.ofNat (n0 + (rep p).length)), vr a, vi (ng ((mag p) / 10 / 10)), vi (Int32.ofNat ((mag p) % 100)), vi (Int32.ofNat (n0 + 6)), vi 1]) (D d2_42) rfl rfl ?_
      refine go_aload_n 44 (D d2_43) rfl rfl rfl ?_
      refine go_iinc 47 (ls' := #[vi (ng ((mag p) / 10 / 10)), vi (Int32.ofNat (n0 + (rep p).length)), vr a, vi (ng ((mag p) / 10 / 10)), vi (Int32.ofNat ((mag p) % 100)), vi (Int32.ofNat (n0 + 5)), vi 1]) (y := (Int32.ofNat (n0 + 5))) (D d2_44) rfl rfl (ofn_dec (n := n0 + 5) (by omega)) rfl ?_
      refine go_iload 49 (D d2_47) rfl rfl ?_
      refine go_getS 52 (wk G 136) ((st_DO G).ext O0.2) (D d2_49) rfl ?_
      refine go_iload 54 (D d2_52) rfl rfl ?_
      refine go_tabO 55 G (n := (mag p) % 100) (v := (dch (mag p))) (by omega) (by unfold dch; congr 1 <;> omega) (D d2_54) rfl ?_
      refine go_stT 56 (i := n0 + 5) (x' := (dch (mag p))) rfl A76 p4 (by simp only [List.length_cons, List.length_nil] <;> omega) (by omega) p1 (dch_i8 _) (D d2_55) rfl (fun h77 W78 A79 => ?_)
      refine go_aload_n 57 (D d2_56) rfl rfl rfl ?_
      refine go_iinc 60 (ls' := #[vi (ng ((mag p) / 10 / 10)), vi (Int32.ofNat (n0 + (rep p).length)), vr a, vi (ng ((mag p) / 10 / 10)), vi (Int32.ofNat ((mag p) % 100)), vi (Int32.ofNat (n0 + 4)), vi 1]) (y := (Int32.ofNat (n0 + 4))) (D d2_57) rfl rfl (ofn_dec (n := n0 + 4) (by omega)) rfl ?_
      refine go_iload 62 (D d2_60) rfl rfl ?_
      refine go_old (fun O80 => ?_)
      refine go_getS 65 (wk G 221) ((st_DT G).ext O80.2) (D d2_62) rfl ?_
      refine go_iload 67 (D d2_65) rfl rfl ?_
      refine go_tabT 68 G (n := (mag p) % 100) (v := (dch ((mag p) / 10))) (by omega) (by unfold dch; congr 1 <;> omega) (D d2_67) rfl ?_
      refine go_stT 69 (i := n0 + 4) (x' := (dch ((mag p) / 10))) rfl A79 p4 (by simp only [List.length_cons, List.length_nil] <;> omega) (by omega) p1 (dch_i8 _) (D d2_68) rfl (fun h81 W82 A83 => ?_)
      refine go_goto 22 (D d2_69) (by decide) rfl ?_
      refine go_iload_n 23 (D d2_22) rfl rfl ?_
      refine go_bipush 25 (v := (-100)) (D d2_23) rfl rfl ?_
      refine go_icF 28 (D d2_25) rfl (XT.ii_gt_f (fun z => absurd ((ng_le (k := 100) (by have := mag_le p; omega) (by decide) (by decide)).mp z) (by omega))) ?_
      refine go_iload_n 29 (D d2_28) rfl rfl ?_
      refine go_bipush 31 (v := 100) (D d2_29) rfl rfl ?_
      refine go_idiv 32 (z := (ng (((mag p) / 10 / 10) / 10 / 10))) (D d2_31) rfl (by decide) (ng_div2 (by have := mag_le p; omega)) ?_
      refine go_istore_n 33 (ls' := #[vi (ng ((mag p) / 10 / 10)), vi (Int32.ofNat (n0 + (rep p).length)), vr a, vi (ng (((mag p) / 10 / 10) / 10 / 10)), vi (Int32.ofNat ((mag p) % 100)), vi (Int32.ofNat (n0 + 4)), vi 1]) (D d2_32) rfl rfl ?_
      refine go_iload_n 34 (D d2_33) rfl rfl ?_
      refine go_bipush 36 (v := 100) (D d2_34) rfl rfl ?_
      refine go_imul 37 (z := ((ng (((mag p) / 10 / 10) / 10 / 10)) * (100 : Int32))) (D d2_36) rfl rfl ?_
      refine go_iload_n 38 (D d2_37) rfl rfl ?_
      refine go_isub 39 (z := (Int32.ofNat (((mag p) / 10 / 10) % 100))) (D d2_38) rfl (ng_rem2 (by have := mag_le p; omega)) ?_
      refine go_istore 41 (ls' := #[vi (ng ((mag p) / 10 / 10)), vi (Int32.ofNat (n0 + (rep p).length)), vr a, vi (ng (((mag p) / 10 / 10) / 10 / 10)), vi (Int32.ofNat (((mag p) / 10 / 10) % 100)), vi (Int32.ofNat (n0 + 4)), vi 1]) (D d2_39) rfl rfl ?_
      refine go_iload_n 42 (D d2_41) rfl rfl ?_
      refine go_istore_n 43 (ls' := #[vi (ng (((mag p) / 10 / 10) / 10 / 10)), vi (Int32.ofNat (n0 + (rep p).length)), vr a, vi (ng (((mag p) / 10 / 10) / 10 / 10)), vi (Int32.ofNat (((mag p) / 10 / 10) % 100)), vi (Int32.ofNat (n0 + 4)), vi 1]) (D d2_42) rfl rfl ?_
      refine go_aload_n 44 (D d2_43) rfl rfl rfl ?_
      refine go_iinc 47 (ls' := #[vi (ng (((mag p) / 10 / 10) / 10 / 10)), vi (Int32.ofNat (n0 + (rep p).length)), vr a, vi (ng (((mag p) / 10 / 10) / 10 / 10)), vi (Int32.ofNat (((mag p) / 10 / 10) % 100)), vi (Int32.ofNat (n0 + 3)), vi 1]) (y := (Int32.ofNat (n0 + 3))) (D d2_44) rfl rfl (ofn_dec (n := n0 + 3) (by omega)) rfl ?_
      refine go_iload 49 (D d2_47) rfl rfl ?_
      refine go_old (fun O84 => ?_)
      refine go_getS 52 (wk G 136) ((st_DO G).ext O84.2) (D d2_49) rfl ?_
      refine go_iload 54 (D d2_52) rfl rfl ?_
      refine go_tabO 55 G (n := ((mag p) / 10 / 10) % 100) (v := (dch ((mag p) / 10 / 10))) (by omega) (by unfold dch; congr 1 <;> omega) (D d2_54) rfl ?_
      refine go_stT 56 (i := n0 + 3) (x' := (dch ((mag p) / 10 / 10))) rfl A83 p4 (by simp only [List.length_cons, List.length_nil] <;> omega) (by omega) p1 (dch_i8 _) (D d2_55) rfl (fun h85 W86 A87 => ?_)
      refine go_aload_n 57 (D d2_56) rfl rfl rfl ?_
      refine go_iinc 60 (ls' := #[vi (ng (((mag p) / 10 / 10) / 10 / 10)), vi (Int32.ofNat (n0 + (rep p).length)), vr a, vi (ng (((mag p) / 10 / 10) / 10 / 10)), vi (Int32.ofNat (((mag p) / 10 / 10) % 100)), vi (Int32.ofNat (n0 + 2)), vi 1]) (y := (Int32.ofNat (n0 + 2))) (D d2_57) rfl rfl (ofn_dec (n := n0 + 2) (by omega)) rfl ?_
      refine go_iload 62 (D d2_60) rfl rfl ?_
      refine go_old (fun O88 => ?_)
      refine go_getS 65 (wk G 221) ((st_DT G).ext O88.2) (D d2_62) rfl ?_
      refine go_iload 67 (D d2_65) rfl rfl ?_
      refine go_tabT 68 G (n := ((mag p) / 10 / 10) % 100) (v := (dch (((mag p) / 10 / 10) / 10))) (by omega) (by unfold dch; congr 1 <;> omega) (D d2_67) rfl ?_
      refine go_stT 69 (i := n0 + 2) (x' := (dch (((mag p) / 10 / 10) / 10))) rfl A87 p4 (by simp only [List.length_cons, List.length_nil] <;> omega) (by omega) p1 (dch_i8 _) (D d2_68) rfl (fun h89 W90 A91 => ?_)
      refine go_goto 22 (D d2_69) (by decide) rfl ?_
      refine go_iload_n 23 (D d2_22) rfl rfl ?_
      refine go_bipush 25 (v := (-100)) (D d2_23) rfl rfl ?_
      refine go_icT 72 (D d2_25) (by decide) rfl (XT.ii_gt_t ((ng_le (k := 100) (by have := mag_le p; omega) (by decide) (by decide)).mpr (by omega))) ?_
      refine go_aload_n 73 (D d2_72) rfl rfl rfl ?_
      refine go_iinc 76 (ls' := #[vi (ng (((mag p) / 10 / 10) / 10 / 10)), vi (Int32.ofNat (n0 + (rep p).length)), vr a, vi (ng (((mag p) / 10 / 10) / 10 / 10)), vi (Int32.ofNat (((mag p) / 10 / 10) % 100)), vi (Int32.ofNat (n0 + 1)), vi 1]) (y := (Int32.ofNat (n0 + 1))) (D d2_73) rfl rfl (ofn_dec (n := n0 + 1) (by omega)) rfl ?_
      refine go_iload 78 (D d2_76) rfl rfl ?_
      refine go_old (fun O92 => ?_)
      refine go_getS 81 (wk G 136) ((st_DO G).ext O92.2) (D d2_78) rfl ?_
      refine go_iload_n 82 (D d2_81) rfl rfl ?_
      refine go_ineg 83 (z := (Int32.ofNat (((mag p) / 10 / 10) / 10 / 10))) (D d2_82) rfl (ng_ng (by omega)) ?_
      refine go_tabO 84 G (n := (((mag p) / 10 / 10) / 10 / 10)) (v := (dch (((mag p) / 10 / 10) / 10 / 10))) (by omega) (by unfold dch; congr 1 <;> omega) (D d2_83) rfl ?_
      refine go_stT 85 (i := n0 + 1) (x' := (dch (((mag p) / 10 / 10) / 10 / 10))) rfl A91 p4 (by simp only [List.length_cons, List.length_nil] <;> omega) (by omega) p1 (dch_i8 _) (D d2_84) rfl (fun h93 W94 A95 => ?_)
      refine go_iload_n 86 (D d2_85) rfl rfl ?_
      refine go_bipush 88 (v := (-9)) (D d2_86) rfl rfl ?_
      refine go_icT 104 (D d2_88) (by decide) rfl (XT.ii_ge_t (fun z => absurd ((ng_lt (k := 9) (by have := mag_le p; omega) (by decide) (by decide)).mp z) (by omega))) ?_
      refine go_iload 106 (D d2_104) rfl rfl ?_
      refine go_ifF 109 (D d2_106) rfl (by decide) ?_
      refine go_aload_n 110 (D d2_109) rfl rfl rfl ?_
      refine go_iinc 113 (ls' := #[vi (ng (((mag p) / 10 / 10) / 10 / 10)), vi (Int32.ofNat (n0 + (rep p).length)), vr a, vi (ng (((mag p) / 10 / 10) / 10 / 10)), vi (Int32.ofNat (((mag p) / 10 / 10) % 100)), vi (Int32.ofNat (n0 + 0)), vi 1]) (y := (Int32.ofNat (n0 + 0))) (D d2_110) rfl rfl (ofn_dec (n := n0 + 0) (by omega)) rfl ?_
      refine go_iload 115 (D d2_113) rfl rfl ?_
      refine go_bipush 117 (v := 45) (D d2_115) rfl rfl ?_
      refine go_stT 118 (i := n0 + 0) (x' := (45 : Int32)) rfl A95 p4 (by simp only [List.length_cons, List.length_nil] <;> omega) (by omega) p1 (by decide) (D d2_117) rfl (fun h96 W97 A98 => ?_)
      refine go_iload 120 (D d2_118) rfl rfl ?_
      have K99 : Keep h0 h77 [a] := ((Keep.refl h0 [a]).wr W78 (Or.inl (by simp)))
      have K100 : Keep h0 h81 [a] := (K99.wr W82 (Or.inl (by simp)))
      have K101 : Keep h0 h85 [a] := (K100.wr W86 (Or.inl (by simp)))
      have K102 : Keep h0 h89 [a] := (K101.wr W90 (Or.inl (by simp)))
      have K103 : Keep h0 h93 [a] := (K102.wr W94 (Or.inl (by simp)))
      have K104 : Keep h0 h96 [a] := (K103.wr W97 (Or.inl (by simp)))
      refine go_ireturn hret hlk rfl (by simp) (D d2_120) (by decide) (by decide) ⟨_, rfl, ⟨(Int32.ofNat (n0 + 0)), rfl, ((show tk L (n0 + 0) [(.int 45), (.int (dch (((mag p) / 10 / 10) / 10 / 10))), (.int (dch (((mag p) / 10 / 10) / 10))), (.int (dch ((mag p) / 10 / 10))), (.int (dch ((mag p) / 10))), (.int (dch (mag p)))] (n0 + 6) = tk L n0 ((rep p).map Value.int) (n0 + (rep p).length) from by rw [n75, rep_n cz1 n2]; rfl) ▸ A98)⟩⟩ K104
    · have n105 : (rep p).length = 7 := rl_n cz1 n2 rfl
      refine go_eqf (g' := mkF m_ 22 #[.val (.int (ng (mag p))), .val (.int (Int32.ofNat (n0 + (rep p).length))), .val (.ref a), .unset, .unset, .val (.int (Int32.ofNat (n0 + 7))), .val (.int 1)] []) (by rw [← ng_neg cz1, n105]) ?_
      have A106 : Arv Z h0 a k .byte (16 : Int32) (tk L (n0 + 7) [] (n0 + 7)) (.int 0) := by rw [tk_start]; exact p5
      refine go_iload_n 23 (D d2_22) rfl rfl ?_
      refine go_bipush 25 (v := (-100)) (D d2_23) rfl rfl ?_
      refine go_icF 28 (D d2_25) rfl (XT.ii_gt_f (fun z => absurd ((ng_le (k := 100) (by have := mag_le p; omega) (by decide) (by decide)).mp z) (by omega))) ?_
      refine go_iload_n 29 (D d2_28) rfl rfl ?_
      refine go_bipush 31 (v := 100) (D d2_29) rfl rfl ?_
      refine go_idiv 32 (z := (ng ((mag p) / 10 / 10))) (D d2_31) rfl (by decide) (ng_div2 (by have := mag_le p; omega)) ?_
      refine go_istore_n 33 (ls' := #[vi (ng (mag p)), vi (Int32.ofNat (n0 + (rep p).length)), vr a, vi (ng ((mag p) / 10 / 10)), un, vi (Int32.ofNat (n0 + 7)), vi 1]) (D d2_32) rfl rfl ?_
      refine go_iload_n 34 (D d2_33) rfl rfl ?_
      refine go_bipush 36 (v := 100) (D d2_34) rfl rfl ?_
      refine go_imul 37 (z := ((ng ((mag p) / 10 / 10)) * (100 : Int32))) (D d2_36) rfl rfl ?_
      refine go_iload_n 38 (D d2_37) rfl rfl ?_
      refine go_isub 39 (z := (Int32.ofNat ((mag p) % 100))) (D d2_38) rfl (ng_rem2 (by have := mag_le p; omega)) ?_
      refine go_istore 41 (ls' := #[vi (ng (mag p)), vi (Int32.ofNat (n0 + (rep p).length)), vr a, vi (ng ((mag p) / 10 / 10)), vi (Int32.ofNat ((mag p) % 100)), vi (Int32.ofNat (n0 + 7)), vi 1]) (D d2_39) rfl rfl ?_
      refine go_iload_n 42 (D d2_41) rfl rfl ?_
      refine go_istore_n 43 (ls' := #[vi (ng ((mag p) / 10 / 10)), vi (Int32.ofNat (n0 + (rep p).length)), vr a, vi (ng ((mag p) / 10 / 10)), vi (Int32.ofNat ((mag p) % 100)), vi (Int32.ofNat (n0 + 7)), vi 1]) (D d2_42) rfl rfl ?_
      refine go_aload_n 44 (D d2_43) rfl rfl rfl ?_
      refine go_iinc 47 (ls' := #[vi (ng ((mag p) / 10 / 10)), vi (Int32.ofNat (n0 + (rep p).length)), vr a, vi (ng ((mag p) / 10 / 10)), vi (Int32.ofNat ((mag p) % 100)), vi (Int32.ofNat (n0 + 6)), vi 1]) (y := (Int32.ofNat (n0 + 6))) (D d2_44) rfl rfl (ofn_dec (n := n0 + 6) (by omega)) rfl ?_
      refine go_iload 49 (D d2_47) rfl rfl ?_
      refine go_getS 52 (wk G 136) ((st_DO G).ext O0.2) (D d2_49) rfl ?_
      refine go_iload 54 (D d2_52) rfl rfl ?_
      refine go_tabO 55 G (n := (mag p) % 100) (v := (dch (mag p))) (by omega) (by unfold dch; congr 1 <;> omega) (D d2_54) rfl ?_
      refine go_stT 56 (i := n0 + 6) (x' := (dch (mag p))) rfl A106 p4 (by simp only [List.length_cons, List.length_nil] <;> omega) (by omega) p1 (dch_i8 _) (D d2_55) rfl (fun h107 W108 A109 => ?_)
      refine go_aload_n 57 (D d2_56) rfl rfl rfl ?_
      refine go_iinc 60 (ls' := #[vi (ng ((mag p) / 10 / 10)), vi (Int32.ofNat (n0 + (rep p).length)), vr a, vi (ng ((mag p) / 10 / 10)), vi (Int32.ofNat ((mag p) % 100)), vi (Int32.ofNat (n0 + 5)), vi 1]) (y := (Int32.ofNat (n0 + 5))) (D d2_57) rfl rfl (ofn_dec (n := n0 + 5) (by omega)) rfl ?_
      refine go_iload 62 (D d2_60) rfl rfl ?_
      refine go_old (fun O110 => ?_)
      refine go_getS 65 (wk G 221) ((st_DT G).ext O110.2) (D d2_62) rfl ?_
      refine go_iload 67 (D d2_65) rfl rfl ?_
      refine go_tabT 68 G (n := (mag p) % 100) (v := (dch ((mag p) / 10))) (by omega) (by unfold dch; congr 1 <;> omega) (D d2_67) rfl ?_
      refine go_stT 69 (i := n0 + 5) (x' := (dch ((mag p) / 10))) rfl A109 p4 (by simp only [List.length_cons, List.length_nil] <;> omega) (by omega) p1 (dch_i8 _) (D d2_68) rfl (fun h111 W112 A113 => ?_)
      refine go_goto 22 (D d2_69) (by decide) rfl ?_
      refine go_iload_n 23 (D d2_22) rfl rfl ?_
      refine go_bipush 25 (v := (-100)) (D d2_23) rfl rfl ?_
      refine go_icF 28 (D d2_25) rfl (XT.ii_gt_f (fun z => absurd ((ng_le (k := 100) (by have := mag_le p; omega) (by decide) (by decide)).mp z) (by omega))) ?_
      refine go_iload_n 29 (D d2_28) rfl rfl ?_
      refine go_bipush 31 (v := 100) (D d2_29) rfl rfl ?_
      refine go_idiv 32 (z := (ng (((mag p) / 10 / 10) / 10 / 10))) (D d2_31) rfl (by decide) (ng_div2 (by have := mag_le p; omega)) ?_
      refine go_istore_n 33 (ls' := #[vi (ng ((mag p) / 10 / 10)), vi (Int32.ofNat (n0 + (rep p).length)), vr a, vi (ng (((mag p) / 10 / 10) / 10 / 10)), vi (Int32.ofNat ((mag p) % 100)), vi (Int32.ofNat (n0 + 5)), vi 1]) (D d2_32) rfl rfl ?_
      refine go_iload_n 34 (D d2_33) rfl rfl ?_
      refine go_bipush 36 (v := 100) (D d2_34) rfl rfl ?_
      refine go_imul 37 (z := ((ng (((mag p) / 10 / 10) / 10 / 10)) * (100 : Int32))) (D d2_36) rfl rfl ?_
      refine go_iload_n 38 (D d2_37) rfl rfl ?_
      refine go_isub 39 (z := (Int32.ofNat (((mag p) / 10 / 10) % 100))) (D d2_38) rfl (ng_rem2 (by have := mag_le p; omega)) ?_
      refine go_istore 41 (ls' := #[vi (ng ((mag p) / 10 / 10)), vi (Int32.ofNat (n0 + (rep p).length)), vr a, vi (ng (((mag p) / 10 / 10) / 10 / 10)), vi (Int32.ofNat (((mag p) / 10 / 10) % 100)), vi (Int32.ofNat (n0 + 5)), vi 1]) (D d2_39) rfl rfl ?_
      refine go_iload_n 42 (D d2_41) rfl rfl ?_
      refine go_istore_n 43 (ls' := #[vi (ng (((mag p) / 10 / 10) / 10 / 10)), vi (Int32.ofNat (n0 + (rep p).length)), vr a, vi (ng (((mag p) / 10 / 10) / 10 / 10)), vi (Int32.ofNat (((mag p) / 10 / 10) % 100)), vi (Int32.ofNat (n0 + 5)), vi 1]) (D d2_42) rfl rfl ?_
      refine go_aload_n 44 (D d2_43) rfl rfl rfl ?_
      refine go_iinc 47 (ls' := #[vi (ng (((mag p) / 10 / 10) / 10 / 10)), vi (Int32.ofNat (n0 + (rep p).length)), vr a, vi (ng (((mag p) / 10 / 10) / 10 / 10)), vi (Int32.ofNat (((mag p) / 10 / 10) % 100)), vi (Int32.ofNat (n0 + 4)), vi 1]) (y := (Int32.ofNat (n0 + 4))) (D d2_44) rfl rfl (ofn_dec (n := n0 + 4) (by omega)) rfl ?_
      refine go_iload 49 (D d2_47) rfl rfl ?_
      refine go_old (fun O114 => ?_)
      refine go_getS 52 (wk G 136) ((st_DO G).ext O114.2) (D d2_49) rfl ?_
      refine go_iload 54 (D d2_52) rfl rfl ?_
      refine go_tabO 55 G (n := ((mag p) / 10 / 10) % 100) (v := (dch ((mag p) / 10 / 10))) (by omega) (by unfold dch; congr 1 <;> omega) (D d2_54) rfl ?_
      refine go_stT 56 (i := n0 + 4) (x' := (dch ((mag p) / 10 / 10))) rfl A113 p4 (by simp only [List.length_cons, List.length_nil] <;> omega) (by omega) p1 (dch_i8 _) (D d2_55) rfl (fun h115 W116 A117 => ?_)
      refine go_aload_n 57 (D d2_56) rfl rfl rfl ?_
      refine go_iinc 60 (ls' := #[vi (ng (((mag p) / 10 / 10) / 10 / 10)), vi (Int32.ofNat (n0 + (rep p).length)), vr a, vi (ng (((mag p) / 10 / 10) / 10 / 10)), vi (Int32.ofNat (((mag p) / 10 / 10) % 100)), vi (Int32.ofNat (n0 + 3)), vi 1]) (y := (Int32.ofNat (n0 + 3))) (D d2_57) rfl rfl (ofn_dec (n := n0 + 3) (by omega)) rfl ?_
      refine go_iload 62 (D d2_60) rfl rfl ?_
      refine go_old (fun O118 => ?_)
      refine go_getS 65 (wk G 221) ((st_DT G).ext O118.2) (D d2_62) rfl ?_
      refine go_iload 67 (D d2_65) rfl rfl ?_
      refine go_tabT 68 G (n := ((mag p) / 10 / 10) % 100) (v := (dch (((mag p) / 10 / 10) / 10))) (by omega) (by unfold dch; congr 1 <;> omega) (D d2_67) rfl ?_
      refine go_stT 69 (i := n0 + 3) (x' := (dch (((mag p) / 10 / 10) / 10))) rfl A117 p4 (by simp only [List.length_cons, List.length_nil] <;> omega) (by omega) p1 (dch_i8 _) (D d2_68) rfl (fun h119 W120 A121 => ?_)
      refine go_goto 22 (D d2_69) (by decide) rfl ?_
      refine go_iload_n 23 (D d2_22) rfl rfl ?_
      refine go_bipush 25 (v := (-100)) (D d2_23) rfl rfl ?_
      refine go_icT 72 (D d2_25) (by decide) rfl (XT.ii_gt_t ((ng_le (k := 100) (by have := mag_le p; omega) (by decide) (by decide)).mpr (by omega))) ?_
      refine go_aload_n 73 (D d2_72) rfl rfl rfl ?_
      refine go_iinc 76 (ls' := #[vi (ng (((mag p) / 10 / 10) / 10 / 10)), vi (Int32.ofNat (n0 + (rep p).length)), vr a, vi (ng (((mag p) / 10 / 10) / 10 / 10)), vi (Int32.ofNat (((mag p) / 10 / 10) % 100)), vi (Int32.ofNat (n0 + 2)), vi 1]) (y := (Int32.ofNat (n0 + 2))) (D d2_73) rfl rfl (ofn_dec (n := n0 + 2) (by omega)) rfl ?_
      refine go_iload 78 (D d2_76) rfl rfl ?_
      refine go_old (fun O122 => ?_)
      refine go_getS 81 (wk G 136) ((st_DO G).ext O122.2) (D d2_78) rfl ?_
      refine go_iload_n 82 (D d2_81) rfl rfl ?_
      refine go_ineg 83 (z := (Int32.ofNat (((mag p) / 10 / 10) / 10 / 10))) (D d2_82) rfl (ng_ng (by omega)) ?_
      refine go_tabO 84 G (n := (((mag p) / 10 / 10) / 10 / 10)) (v := (dch (((mag p) / 10 / 10) / 10 / 10))) (by omega) (by unfold dch; congr 1 <;> omega) (D d2_83) rfl ?_
      refine go_stT 85 (i := n0 + 2) (x' := (dch (((mag p) / 10 / 10) / 10 / 10))) rfl A121 p4 (by simp only [List.length_cons, List.length_nil] <;> omega) (by omega) p1 (dch_i8 _) (D d2_84) rfl (fun h123 W124 A125 => ?_)
      refine go_iload_n 86 (D d2_85) rfl rfl ?_
      refine go_bipush 88 (v := (-9)) (D d2_86) rfl rfl ?_
      refine go_icF 91 (D d2_88) rfl (XT.ii_ge_f ((ng_lt (k := 9) (by have := mag_le p; omega) (by decide) (by decide)).mpr (by omega))) ?_
      refine go_aload_n 92 (D d2_91) rfl rfl rfl ?_
      refine go_iinc 95 (ls' := #[vi (ng (((mag p) / 10 / 10) / 10 / 10)), vi (Int32.ofNat (n0 + (rep p).length)), vr a, vi (ng (((mag p) / 10 / 10) / 10 / 10)), vi (Int32.ofNat (((mag p) / 10 / 10) % 100)), vi (Int32.ofNat (n0 + 1)), vi 1]) (y := (Int32.ofNat (n0 + 1))) (D d2_92) rfl rfl (ofn_dec (n := n0 + 1) (by omega)) rfl ?_
      refine go_iload 97 (D d2_95) rfl rfl ?_
      refine go_old (fun O126 => ?_)
      refine go_getS 100 (wk G 221) ((st_DT G).ext O126.2) (D d2_97) rfl ?_
      refine go_iload_n 101 (D d2_100) rfl rfl ?_
      refine go_ineg 102 (z := (Int32.ofNat (((mag p) / 10 / 10) / 10 / 10))) (D d2_101) rfl (ng_ng (by omega)) ?_
      refine go_tabT 103 G (n := (((mag p) / 10 / 10) / 10 / 10)) (v := (dch ((((mag p) / 10 / 10) / 10 / 10) / 10))) (by omega) (by unfold dch; congr 1 <;> omega) (D d2_102) rfl ?_
      refine go_stT 104 (i := n0 + 1) (x' := (dch ((((mag p) / 10 / 10) / 10 / 10) / 10))) rfl A125 p4 (by simp only [List.length_cons, List.length_nil] <;> omega) (by omega) p1 (dch_i8 _) (D d2_103) rfl (fun h127 W128 A129 => ?_)
      refine go_iload 106 (D d2_104) rfl rfl ?_
      refine go_ifF 109 (D d2_106) rfl (by decide) ?_
      refine go_aload_n 110 (D d2_109) rfl rfl rfl ?_
      refine go_iinc 113 (ls' := #[vi (ng (((mag p) / 10 / 10) / 10 / 10)), vi (Int32.ofNat (n0 + (rep p).length)), vr a, vi (ng (((mag p) / 10 / 10) / 10 / 10)), vi (Int32.ofNat (((mag p) / 10 / 10) % 100)), vi (Int32.ofNat (n0 + 0)), vi 1]) (y := (Int32.ofNat (n0 + 0))) (D d2_110) rfl rfl (ofn_dec (n := n0 + 0) (by omega)) rfl ?_
      refine go_iload 115 (D d2_113) rfl rfl ?_
      refine go_bipush 117 (v := 45) (D d2_115) rfl rfl ?_
      refine go_stT 118 (i := n0 + 0) (x' := (45 : Int32)) rfl A129 p4 (by simp only [List.length_cons, List.length_nil] <;> omega) (by omega) p1 (by decide) (D d2_117) rfl (fun h130 W131 A132 => ?_)
      refine go_iload 120 (D d2_118) rfl rfl ?_
      have K133 : Keep h0 h107 [a] := ((Keep.refl h0 [a]).wr W108 (Or.inl (by simp)))
      have K134 : Keep h0 h111 [a] := (K133.wr W112 (Or.inl (by simp)))
      have K135 : Keep h0 h115 [a] := (K134.wr W116 (Or.inl (by simp)))
      have K136 : Keep h0 h119 [a] := (K135.wr W120 (Or.inl (by simp)))
      have K137 : Keep h0 h123 [a] := (K136.wr W124 (Or.inl (by simp)))
      have K138 : Keep h0 h127 [a] := (K137.wr W128 (Or.inl (by simp)))
      have K139 : Keep h0 h130 [a] := (K138.wr W131 (Or.inl (by simp)))
      refine go_ireturn hret hlk rfl (by simp) (D d2_120) (by decide) (by decide) ⟨_, rfl, ⟨(Int32.ofNat (n0 + 0)), rfl, ((show tk L (n0 + 0) [(.int 45), (.int (dch ((((mag p) / 10 / 10) / 10 / 10) / 10))), (.int (dch (((mag p) / 10 / 10) / 10 / 10))), (.int (dch (((mag p) / 10 / 10) / 10))), (.int (dch ((mag p) / 10 / 10))), (.int (dch ((mag p) / 10))), (.int (dch (mag p)))] (n0 + 7) = tk L n0 ((rep p).map Value.int) (n0 + (rep p).length) from by rw [n105, rep_n cz1 n2]; rfl) ▸ A132)⟩⟩ K139
    · have n140 : (rep p).length = 8 := rl_n cz1 n2 rfl
      refine go_eqf (g' := mkF m_ 22 #[.val (.int (ng (mag p))), .val (.int (Int32.ofNat (n0 + (rep p).length))), .val (.ref a), .unset, .unset, .val (.int (Int32.ofNat (n0 + 8))), .val (.int 1)] []) (by rw [← ng_neg cz1, n140]) ?_
      have A141 : Arv Z h0 a k .byte (16 : Int32) (tk L (n0 + 8) [] (n0 + 8)) (.int 0) := by rw [tk_start]; exact p5
      refine go_iload_n 23 (D d2_22) rfl rfl ?_
      refine go_bipush 25 (v := (-100)) (D d2_23) rfl rfl ?_
      refine go_icF 28 (D d2_25) rfl (XT.ii_gt_f (fun z => absurd ((ng_le (k := 100) (by have := mag_le p; omega) (by decide) (by decide)).mp z) (by omega))) ?_
      refine go_iload_n 29 (D d2_28) rfl rfl ?_
      refine go_bipush 31 (v := 100) (D d2_29) rfl rfl ?_
      refine go_idiv 32 (z := (ng ((mag p) / 10 / 10))) (D d2_31) rfl (by decide) (ng_div2 (by have := mag_le p; omega)) ?_
      refine go_istore_n 33 (ls' := #[vi (ng (mag p)), vi (Int32.ofNat (n0 + (rep p).length)), vr a, vi (ng ((mag p) / 10 / 10)), un, vi (Int32.ofNat (n0 + 8)), vi 1]) (D d2_32) rfl rfl ?_
      refine go_iload_n 34 (D d2_33) rfl rfl ?_
      refine go_bipush 36 (v := 100) (D d2_34) rfl rfl ?_
      refine go_imul 37 (z := ((ng ((mag p) / 10 / 10)) * (100 : Int32))) (D d2_36) rfl rfl ?_
      refine go_iload_n 38 (D d2_37) rfl rfl ?_
      refine go_isub 39 (z := (Int32.ofNat ((mag p) % 100))) (D d2_38) rfl (ng_rem2 (by have := mag_le p; omega)) ?_
      refine go_istore 41 (ls' := #[vi (ng (mag p)), vi (Int32.ofNat (n0 + (rep p).length)), vr a, vi (ng ((mag p) / 10 / 10)), vi (Int32.ofNat ((mag p) % 100)), vi (Int32.ofNat (n0 + 8)), vi 1]) (D d2_39) rfl rfl ?_
      refine go_iload_n 42 (D d2_41) rfl rfl ?_
      refine go_istore_n 43 (ls' := #[vi (ng ((mag p) / 10 / 10)), vi (Int32.ofNat (n0 + (rep p).length)), vr a, vi (ng ((mag p) / 10 / 10)), vi (Int32.ofNat ((mag p) % 100)), vi (Int32.ofNat (n0 + 8)), vi 1]) (D d2_42) rfl rfl ?_
      refine go_aload_n 44 (D d2_43) rfl rfl rfl ?_
      refine go_iinc 47 (ls' := #[vi (ng ((mag p) / 10 / 10)), vi (Int32.ofNat (n0 + (rep p).length)), vr a, vi (ng ((mag p) / 10 / 10)), vi (Int32.ofNat ((mag p) % 100)), vi (Int32.ofNat (n0 + 7)), vi 1]) (y := (Int32.ofNat (n0 + 7))) (D d2_44) rfl rfl (ofn_dec (n := n0 + 7) (by omega)) rfl ?_
      refine go_iload 49 (D d2_47) rfl rfl ?_
      refine go_getS 52 (wk G 136) ((st_DO G).ext O0.2) (D d2_49) rfl ?_
      refine go_iload 54 (D d2_52) rfl rfl ?_
      refine go_tabO 55 G (n := (mag p) % 100) (v := (dch (mag p))) (by omega) (by unfold dch; congr 1 <;> omega) (D d2_54) rfl ?_
      refine go_stT 56 (i := n0 + 7) (x' := (dch (mag p))) rfl A141 p4 (by simp only [List.length_cons, List.length_nil] <;> omega) (by omega) p1 (dch_i8 _) (D d2_55) rfl (fun h142 W143 A144 => ?_)
      refine go_aload_n 57 (D d2_56) rfl rfl rfl ?_
      refine go_iinc 60 (ls' := #[vi (ng ((mag p) / 10 / 10)), vi (Int32.ofNat (n0 + (rep p).length)), vr a, vi (ng ((mag p) / 10 / 10)), vi (Int32.ofNat ((mag p) % 100)), vi (Int32.ofNat (n0 + 6)), vi 1]) (y := (Int32.ofNat (n0 + 6))) (D d2_57) rfl rfl (ofn_dec (n := n0 + 6) (by omega)) rfl ?_
      refine go_iload 62 (D d2_60) rfl rfl ?_
      refine go_old (fun O145 => ?_)
      refine go_getS 65 (wk G 221) ((st_DT G).ext O145.2) (D d2_62) rfl ?_
      refine go_iload 67 (D d2_65) rfl rfl ?_
      refine go_tabT 68 G (n := (mag p) % 100) (v := (dch ((mag p) / 10))) (by omega) (by unfold dch; congr 1 <;> omega) (D d2_67) rfl ?_
      refine go_stT 69 (i := n0 + 6) (x' := (dch ((mag p) / 10))) rfl A144 p4 (by simp only [List.length_cons, List.length_nil] <;> omega) (by omega) p1 (dch_i8 _) (D d2_68) rfl (fun h146 W147 A148 => ?_)
      refine go_goto 22 (D d2_69) (by decide) rfl ?_
      refine go_iload_n 23 (D d2_22) rfl rfl ?_
      refine go_bipush 25 (v := (-100)) (D d2_23) rfl rfl ?_
      refine go_icF 28 (D d2_25) rfl (XT.ii_gt_f (fun z => absurd ((ng_le (k := 100) (by have := mag_le p; omega) (by decide) (by decide)).mp z) (by omega))) ?_
      refine go_iload_n 29 (D d2_28) rfl rfl ?_
      refine go_bipush 31 (v := 100) (D d2_29) rfl rfl ?_
      refine go_idiv 32 (z := (ng (((mag p) / 10 / 10) / 10 / 10))) (D d2_31) rfl (by decide) (ng_div2 (by have := mag_le p; omega)) ?_
      refine go_istore_n 33 (ls' := #[vi (ng ((mag p) / 10 / 10)), vi (Int32.ofNat (n0 + (rep p).length)), vr a, vi (ng (((mag p) / 10 / 10) / 10 / 10)), vi (Int32.ofNat ((mag p) % 100)), vi (Int32.ofNat (n0 + 6)), vi 1]) (D d2_32) rfl rfl ?_
      refine go_iload_n 34 (D d2_33) rfl rfl ?_
      refine go_bipush 36 (v := 100) (D d2_34) rfl rfl ?_
      refine go_imul 37 (z := ((ng (((mag p) / 10 / 10) / 10 / 10)) * (100 : Int32))) (D d2_36) rfl rfl ?_
      refine go_iload_n 38 (D d2_37) rfl rfl ?_
      refine go_isub 39 (z := (Int32.ofNat (((mag p) / 10 / 10) % 100))) (D d2_38) rfl (ng_rem2 (by have := mag_le p; omega)) ?_
      refine go_istore 41 (ls' := #[vi (ng ((mag p) / 10 / 10)), vi (Int32.ofNat (n0 + (rep p).length)), vr a, vi (ng (((mag p) / 10 / 10) / 10 / 10)), vi (Int32.ofNat (((mag p) / 10 / 10) % 100)), vi (Int32.ofNat (n0 + 6)), vi 1]) (D d2_39) rfl rfl ?_
      refine go_iload_n 42 (D d2_41) rfl rfl ?_
      refine go_istore_n 43 (ls' := #[vi (ng (((mag p) / 10 / 10) / 10 / 10)), vi (Int32.ofNat (n0 + (rep p).length)), vr a, vi (ng (((mag p) / 10 / 10) / 10 / 10)), vi (Int32.ofNat (((mag p) / 10 / 10) % 100)), vi (Int32.ofNat (n0 + 6)), vi 1]) (D d2_42) rfl rfl ?_
      refine go_aload_n 44 (D d2_43) rfl rfl rfl ?_
      refine go_iinc 47 (ls' := #[vi (ng (((mag p) / 10 / 10) / 10 / 10)), vi (Int32.ofNat (n0 + (rep p).length)), vr a, vi (ng (((mag p) / 10 / 10) / 10 / 10)), vi (Int32.ofNat (((mag p) / 10 / 10) % 100)), vi (Int32.ofNat (n0 + 5)), vi 1]) (y := (Int32.ofNat (n0 + 5))) (D d2_44) rfl rfl (ofn_dec (n := n0 + 5) (by omega)) rfl ?_
      refine go_iload 49 (D d2_47) rfl rfl ?_
      refine go_old (fun O149 => ?_)
      refine go_getS 52 (wk G 136) ((st_DO G).ext O149.2) (D d2_49) rfl ?_
      refine go_iload 54 (D d2_52) rfl rfl ?_
      refine go_tabO 55 G (n := ((mag p) / 10 / 10) % 100) (v := (dch ((mag p) / 10 / 10))) (by omega) (by unfold dch; congr 1 <;> omega) (D d2_54) rfl ?_
      refine go_stT 56 (i := n0 + 5) (x' := (dch ((mag p) / 10 / 10))) rfl A148 p4 (by simp only [List.length_cons, List.length_nil] <;> omega) (by omega) p1 (dch_i8 _) (D d2_55) rfl (fun h150 W151 A152 => ?_)
      refine go_aload_n 57 (D d2_56) rfl rfl rfl ?_
      refine go_iinc 60 (ls' := #[vi (ng (((mag p) / 10 / 10) / 10 / 10)), vi (Int32.ofNat (n0 + (rep p).length)), vr a, vi (ng (((mag p) / 10 / 10) / 10 / 10)), vi (Int32.ofNat (((mag p) / 10 / 10) % 100)), vi (Int32.ofNat (n0 + 4)), vi 1]) (y := (Int32.ofNat (n0 + 4))) (D d2_57) rfl rfl (ofn_dec (n := n0 + 4) (by omega)) rfl ?_
      refine go_iload 62 (D d2_60) rfl rfl ?_
      refine go_old (fun O153 => ?_)
      refine go_getS 65 (wk G 221) ((st_DT G).ext O153.2) (D d2_62) rfl ?_
      refine go_iload 67 (D d2_65) rfl rfl ?_
      refine go_tabT 68 G (n := ((mag p) / 10 / 10) % 100) (v := (dch (((mag p) / 10 / 10) / 10))) (by omega) (by unfold dch; congr 1 <;> omega) (D d2_67) rfl ?_
      refine go_stT 69 (i := n0 + 4) (x' := (dch (((mag p) / 10 / 10) / 10))) rfl A152 p4 (by simp only [List.length_cons, List.length_nil] <;> omega) (by omega) p1 (dch_i8 _) (D d2_68) rfl (fun h154 W155 A156 => ?_)
      refine go_goto 22 (D d2_69) (by decide) rfl ?_
      refine go_iload_n 23 (D d2_22) rfl rfl ?_
      refine go_bipush 25 (v := (-100)) (D d2_23) rfl rfl ?_
      refine go_icF 28 (D d2_25) rfl (XT.ii_gt_f (fun z => absurd ((ng_le (k := 100) (by have := mag_le p; omega) (by decide) (by decide)).mp z) (by omega))) ?_
      refine go_iload_n 29 (D d2_28) rfl rfl ?_
      refine go_bipush 31 (v := 100) (D d2_29) rfl rfl ?_
      refine go_idiv 32 (z := (ng ((((mag p) / 10 / 10) / 10 / 10) / 10 / 10))) (D d2_31) rfl (by decide) (ng_div2 (by have := mag_le p; omega)) ?_
      refine go_istore_n 33 (ls' := #[vi (ng (((mag p) / 10 / 10) / 10 / 10)), vi (Int32.ofNat (n0 + (rep p).length)), vr a, vi (ng ((((mag p) / 10 / 10) / 10 / 10) / 10 / 10)), vi (Int32.ofNat (((mag p) / 10 / 10) % 100)), vi (Int32.ofNat (n0 + 4)), vi 1]) (D d2_32) rfl rfl ?_
      refine go_iload_n 34 (D d2_33) rfl rfl ?_
      refine go_bipush 36 (v := 100) (D d2_34) rfl rfl ?_
      refine go_imul 37 (z := ((ng ((((mag p) / 10 / 10) / 10 / 10) / 10 / 10)) * (100 : Int32))) (D d2_36) rfl rfl ?_
      refine go_iload_n 38 (D d2_37) rfl rfl ?_
      refine go_isub 39 (z := (Int32.ofNat ((((mag p) / 10 / 10) / 10 / 10) % 100))) (D d2_38) rfl (ng_rem2 (by have := mag_le p; omega)) ?_
      refine go_istore 41 (ls' := #[vi (ng (((mag p) / 10 / 10) / 10 / 10)), vi (Int32.ofNat (n0 + (rep p).length)), vr a, vi (ng ((((mag p) / 10 / 10) / 10 / 10) / 10 / 10)), vi (Int32.ofNat ((((mag p) / 10 / 10) / 10 / 10) % 100)), vi (Int32.ofNat (n0 + 4)), vi 1]) (D d2_39) rfl rfl ?_
      refine go_iload_n 42 (D d2_41) rfl rfl ?_
      refine go_istore_n 43 (ls' := #[vi (ng ((((mag p) / 10 / 10) / 10 / 10) / 10 / 10)), vi (Int32.ofNat (n0 + (rep p).length)), vr a, vi (ng ((((mag p) / 10 / 10) / 10 / 10) / 10 / 10)), vi (Int32.ofNat ((((mag p) / 10 / 10) / 10 / 10) % 100)), vi (Int32.ofNat (n0 + 4)), vi 1]) (D d2_42) rfl rfl ?_
      refine go_aload_n 44 (D d2_43) rfl rfl rfl ?_
      refine go_iinc 47 (ls' := #[vi (ng ((((mag p) / 10 / 10) / 10 / 10) / 10 / 10)), vi (Int32.ofNat (n0 + (rep p).length)), vr a, vi (ng ((((mag p) / 10 / 10) / 10 / 10) / 10 / 10)), vi (Int32.ofNat ((((mag p) / 10 / 10) / 10 / 10) % 100)), vi (Int32.ofNat (n0 + 3)), vi 1]) (y := (Int32.ofNat (n0 + 3))) (D d2_44) rfl rfl (ofn_dec (n := n0 + 3) (by omega)) rfl ?_
      refine go_iload 49 (D d2_47) rfl rfl ?_
      refine go_old (fun O157 => ?_)
      refine go_getS 52 (wk G 136) ((st_DO G).ext O157.2) (D d2_49) rfl ?_
      refine go_iload 54 (D d2_52) rfl rfl ?_
      refine go_tabO 55 G (n := (((mag p) / 10 / 10) / 10 / 10) % 100) (v := (dch (((mag p) / 10 / 10) / 10 / 10))) (by omega) (by unfold dch; congr 1 <;> omega) (D d2_54) rfl ?_
      refine go_stT 56 (i := n0 + 3) (x' := (dch (((mag p) / 10 / 10) / 10 / 10))) rfl A156 p4 (by simp only [List.length_cons, List.length_nil] <;> omega) (by omega) p1 (dch_i8 _) (D d2_55) rfl (fun h158 W159 A160 => ?_)
      refine go_aload_n 57 (D d2_56) rfl rfl rfl ?_
      refine go_iinc 60 (ls' := #[vi (ng ((((mag p) / 10 / 10) / 10 / 10) / 10 / 10)), vi (Int32.ofNat (n0 + (rep p).length)), vr a, vi (ng ((((mag p) / 10 / 10) / 10 / 10) / 10 / 10)), vi (Int32.ofNat ((((mag p) / 10 / 10) / 10 / 10) % 100)), vi (Int32.ofNat (n0 + 2)), vi 1]) (y := (Int32.ofNat (n0 + 2))) (D d2_57) rfl rfl (ofn_dec (n := n0 + 2) (by omega)) rfl ?_
      refine go_iload 62 (D d2_60) rfl rfl ?_
      refine go_old (fun O161 => ?_)
      refine go_getS 65 (wk G 221) ((st_DT G).ext O161.2) (D d2_62) rfl ?_
      refine go_iload 67 (D d2_65) rfl rfl ?_
      refine go_tabT 68 G (n := (((mag p) / 10 / 10) / 10 / 10) % 100) (v := (dch ((((mag p) / 10 / 10) / 10 / 10) / 10))) (by omega) (by unfold dch; congr 1 <;> omega) (D d2_67) rfl ?_
      refine go_stT 69 (i := n0 + 2) (x' := (dch ((((mag p) / 10 / 10) / 10 / 10) / 10))) rfl A160 p4 (by simp only [List.length_cons, List.length_nil] <;> omega) (by omega) p1 (dch_i8 _) (D d2_68) rfl (fun h162 W163 A164 => ?_)
      refine go_goto 22 (D d2_69) (by decide) rfl ?_
      refine go_iload_n 23 (D d2_22) rfl rfl ?_
      refine go_bipush 25 (v := (-100)) (D d2_23) rfl rfl ?_
      refine go_icT 72 (D d2_25) (by decide) rfl (XT.ii_gt_t ((ng_le (k := 100) (by have := mag_le p; omega) (by decide) (by decide)).mpr (by omega))) ?_
      refine go_aload_n 73 (D d2_72) rfl rfl rfl ?_
      refine go_iinc 76 (ls' := #[vi (ng ((((mag p) / 10 / 10) / 10 / 10) / 10 / 10)), vi (Int32.ofNat (n0 + (rep p).length)), vr a, vi (ng ((((mag p) / 10 / 10) / 10 / 10) / 10 / 10)), vi (Int32.ofNat ((((mag p) / 10 / 10) / 10 / 10) % 100)), vi (Int32.ofNat (n0 + 1)), vi 1]) (y := (Int32.ofNat (n0 + 1))) (D d2_73) rfl rfl (ofn_dec (n := n0 + 1) (by omega)) rfl ?_
      refine go_iload 78 (D d2_76) rfl rfl ?_
      refine go_old (fun O165 => ?_)
      refine go_getS 81 (wk G 136) ((st_DO G).ext O165.2) (D d2_78) rfl ?_
      refine go_iload_n 82 (D d2_81) rfl rfl ?_
      refine go_ineg 83 (z := (Int32.ofNat ((((mag p) / 10 / 10) / 10 / 10) / 10 / 10))) (D d2_82) rfl (ng_ng (by omega)) ?_
      refine go_tabO 84 G (n := ((((mag p) / 10 / 10) / 10 / 10) / 10 / 10)) (v := (dch ((((mag p) / 10 / 10) / 10 / 10) / 10 / 10))) (by omega) (by unfold dch; congr 1 <;> omega) (D d2_83) rfl ?_
      refine go_stT 85 (i := n0 + 1) (x' := (dch ((((mag p) / 10 / 10) / 10 / 10) / 10 / 10))) rfl A164 p4 (by simp only [List.length_cons, List.length_nil] <;> omega) (by omega) p1 (dch_i8 _) (D d2_84) rfl (fun h166 W167 A168 => ?_)
      refine go_iload_n 86 (D d2_85) rfl rfl ?_
      refine go_bipush 88 (v := (-9)) (D d2_86) rfl rfl ?_
      refine go_icT 104 (D d2_88) (by decide) rfl (XT.ii_ge_t (fun z => absurd ((ng_lt (k := 9) (by have := mag_le p; omega) (by decide) (by decide)).mp z) (by omega))) ?_
      refine go_iload 106 (D d2_104) rfl rfl ?_
      refine go_ifF 109 (D d2_106) rfl (by decide) ?_
      refine go_aload_n 110 (D d2_109) rfl rfl rfl ?_
      refine go_iinc 113 (ls' := #[vi (ng ((((mag p) / 10 / 10) / 10 / 10) / 10 / 10)), vi (Int32.ofNat (n0 + (rep p).length)), vr a, vi (ng ((((mag p) / 10 / 10) / 10 / 10) / 10 / 10)), vi (Int32.ofNat ((((mag p) / 10 / 10) / 10 / 10) % 100)), vi (Int32.ofNat (n0 + 0)), vi 1]) (y := (Int32.ofNat (n0 + 0))) (D d2_110) rfl rfl (ofn_dec (n := n0 + 0) (by omega)) rfl ?_
      refine go_iload 115 (D d2_113) rfl rfl ?_
      refine go_bipush 117 (v := 45) (D d2_115) rfl rfl ?_
      refine go_stT 118 (i := n0 + 0) (x' := (45 : Int32)) rfl A168 p4 (by simp only [List.length_cons, List.length_nil] <;> omega) (by omega) p1 (by decide) (D d2_117) rfl (fun h169 W170 A171 => ?_)
      refine go_iload 120 (D d2_118) rfl rfl ?_
      have K172 : Keep h0 h142 [a] := ((Keep.refl h0 [a]).wr W143 (Or.inl (by simp)))
      have K173 : Keep h0 h146 [a] := (K172.wr W147 (Or.inl (by simp)))
      have K174 : Keep h0 h150 [a] := (K173.wr W151 (Or.inl (by simp)))
      have K175 : Keep h0 h154 [a] := (K174.wr W155 (Or.inl (by simp)))
      have K176 : Keep h0 h158 [a] := (K175.wr W159 (Or.inl (by simp)))
      have K177 : Keep h0 h162 [a] := (K176.wr W163 (Or.inl (by simp)))
      have K178 : Keep h0 h166 [a] := (K177.wr W167 (Or.inl (by simp)))
      have K179 : Keep h0 h169 [a] := (K178.wr W170 (Or.inl (by simp)))
      refine go_ireturn hret hlk rfl (by simp) (D d2_120) (by decide) (by decide) ⟨_, rfl, ⟨(Int32.ofNat (n0 + 0)), rfl, ((show tk L (n0 + 0) [(.int 45), (.int (dch ((((mag p) / 10 / 10) / 10 / 10) / 10 / 10))), (.int (dch ((((mag p) / 10 / 10) / 10 / 10) / 10))), (.int (dch (((mag p) / 10 / 10) / 10 / 10))), (.int (dch (((mag p) / 10 / 10) / 10))), (.int (dch ((mag p) / 10 / 10))), (.int (dch ((mag p) / 10))), (.int (dch (mag p)))] (n0 + 8) = tk L n0 ((rep p).map Value.int) (n0 + (rep p).length) from by rw [n140, rep_n cz1 n2]; rfl) ▸ A171)⟩⟩ K179
    · have n180 : (rep p).length = 9 := rl_n cz1 n2 rfl
      refine go_eqf (g' := mkF m_ 22 #[.val (.int (ng (mag p))), .val (.int (Int32.ofNat (n0 + (rep p).length))), .val (.ref a), .unset, .unset, .val (.int (Int32.ofNat (n0 + 9))), .val (.int 1)] []) (by rw [← ng_neg cz1, n180]) ?_
      have A181 : Arv Z h0 a k .byte (16 : Int32) (tk L (n0 + 9) [] (n0 + 9)) (.int 0) := by rw [tk_start]; exact p5
      refine go_iload_n 23 (D d2_22) rfl rfl ?_
      refine go_bipush 25 (v := (-100)) (D d2_23) rfl rfl ?_
      refine go_icF 28 (D d2_25) rfl (XT.ii_gt_f (fun z => absurd ((ng_le (k := 100) (by have := mag_le p; omega) (by decide) (by decide)).mp z) (by omega))) ?_
      refine go_iload_n 29 (D d2_28) rfl rfl ?_
      refine go_bipush 31 (v := 100) (D d2_29) rfl rfl ?_
      refine go_idiv 32 (z := (ng ((mag p) / 10 / 10))) (D d2_31) rfl (by decide) (ng_div2 (by have := mag_le p; omega)) ?_
      refine go_istore_n 33 (ls' := #[vi (ng (mag p)), vi (Int32.ofNat (n0 + (rep p).length)), vr a, vi (ng ((mag p) / 10 / 10)), un, vi (Int32.ofNat (n0 + 9)), vi 1]) (D d2_32) rfl rfl ?_
      refine go_iload_n 34 (D d2_33) rfl rfl ?_
      refine go_bipush 36 (v := 100) (D d2_34) rfl rfl ?_
      refine go_imul 37 (z := ((ng ((mag p) / 10 / 10)) * (100 : Int32))) (D d2_36) rfl rfl ?_
      refine go_iload_n 38 (D d2_37) rfl rfl ?_
      refine go_isub 39 (z := (Int32.ofNat ((mag p) % 100))) (D d2_38) rfl (ng_rem2 (by have := mag_le p; omega)) ?_
      refine go_istore 41 (ls' := #[vi (ng (mag p)), vi (Int32.ofNat (n0 + (rep p).length)), vr a, vi (ng ((mag p) / 10 / 10)), vi (Int32.ofNat ((mag p) % 100)), vi (Int32.ofNat (n0 + 9)), vi 1]) (D d2_39) rfl rfl ?_
      refine go_iload_n 42 (D d2_41) rfl rfl ?_
      refine go_istore_n 43 (ls' := #[vi (ng ((mag p) / 10 / 10)), vi (Int32.ofNat (n0 + (rep p).length)), vr a, vi (ng ((mag p) / 10 / 10)), vi (Int32.ofNat ((mag p) % 100)), vi (Int32.ofNat (n0 + 9)), vi 1]) (D d2_42) rfl rfl ?_
      refine go_aload_n 44 (D d2_43) rfl rfl rfl ?_
      refine go_iinc 47 (ls' := #[vi (ng ((mag p) / 10 / 10)), vi (Int32.ofNat (n0 + (rep p).length)), vr a, vi (ng ((mag p) / 10 / 10)), vi (Int32.ofNat ((mag p) % 100)), vi (Int32.ofNat (n0 + 8)), vi 1]) (y := (Int32.ofNat (n0 + 8))) (D d2_44) rfl rfl (ofn_dec (n := n0 + 8) (by omega)) rfl ?_
      refine go_iload 49 (D d2_47) rfl rfl ?_
      refine go_getS 52 (wk G 136) ((st_DO G).ext O0.2) (D d2_49) rfl ?_
      refine go_iload 54 (D d2_52) rfl rfl ?_
      refine go_tabO 55 G (n := (mag p) % 100) (v := (dch (mag p))) (by omega) (by unfold dch; congr 1 <;> omega) (D d2_54) rfl ?_
      refine go_stT 56 (i := n0 + 8) (x' := (dch (mag p))) rfl A181 p4 (by simp only [List.length_cons, List.length_nil] <;> omega) (by omega) p1 (dch_i8 _) (D d2_55) rfl (fun h182 W183 A184 => ?_)
      refine go_aload_n 57 (D d2_56) rfl rfl rfl ?_
      refine go_iinc 60 (ls' := #[vi (ng ((mag p) / 10 / 10)), vi (Int32.ofNat (n0 + (rep p).length)), vr a, vi (ng ((mag p) / 10 / 10)), vi (Int32.ofNat ((mag p) % 100)), vi (Int32.ofNat (n0 + 7)), vi 1]) (y := (Int32.ofNat (n0 + 7))) (D d2_57) rfl rfl (ofn_dec (n := n0 + 7) (by omega)) rfl ?_
      refine go_iload 62 (D d2_60) rfl rfl ?_
      refine go_old (fun O185 => ?_)
      refine go_getS 65 (wk G 221) ((st_DT G).ext O185.2) (D d2_62) rfl ?_
      refine go_iload 67 (D d2_65) rfl rfl ?_
      refine go_tabT 68 G (n := (mag p) % 100) (v := (dch ((mag p) / 10))) (by omega) (by unfold dch; congr 1 <;> omega) (D d2_67) rfl ?_
      refine go_stT 69 (i := n0 + 7) (x' := (dch ((mag p) / 10))) rfl A184 p4 (by simp only [List.length_cons, List.length_nil] <;> omega) (by omega) p1 (dch_i8 _) (D d2_68) rfl (fun h186 W187 A188 => ?_)
      refine go_goto 22 (D d2_69) (by decide) rfl ?_
      refine go_iload_n 23 (D d2_22) rfl rfl ?_
      refine go_bipush 25 (v := (-100)) (D d2_23) rfl rfl ?_
      refine go_icF 28 (D d2_25) rfl (XT.ii_gt_f (fun z => absurd ((ng_le (k := 100) (by have := mag_le p; omega) (by decide) (by decide)).mp z) (by omega))) ?_
      refine go_iload_n 29 (D d2_28) rfl rfl ?_
      refine go_bipush 31 (v := 100) (D d2_29) rfl rfl ?_
      refine go_idiv 32 (z := (ng (((mag p) / 10 / 10) / 10 / 10))) (D d2_31) rfl (by decide) (ng_div2 (by have := mag_le p; omega)) ?_
      refine go_istore_n 33 (ls' := #[vi (ng ((mag p) / 10 / 10)), vi (Int32.ofNat (n0 + (rep p).length)), vr a, vi (ng (((mag p) / 10 / 10) / 10 / 10)), vi (Int32.ofNat ((mag p) % 100)), vi (Int32.ofNat (n0 + 7)), vi 1]) (D d2_32) rfl rfl ?_
      refine go_iload_n 34 (D d2_33) rfl rfl ?_
      refine go_bipush 36 (v := 100) (D d2_34) rfl rfl ?_
      refine go_imul 37 (z := ((ng (((mag p) / 10 / 10) / 10 / 10)) * (100 : Int32))) (D d2_36) rfl rfl ?_
      refine go_iload_n 38 (D d2_37) rfl rfl ?_
      refine go_isub 39 (z := (Int32.ofNat (((mag p) / 10 / 10) % 100))) (D d2_38) rfl (ng_rem2 (by have := mag_le p; omega)) ?_
      refine go_istore 41 (ls' := #[vi (ng ((mag p) / 10 / 10)), vi (Int32.ofNat (n0 + (rep p).length)), vr a, vi (ng (((mag p) / 10 / 10) / 10 / 10)), vi (Int32.ofNat (((mag p) / 10 / 10) % 100)), vi (Int32.ofNat (n0 + 7)), vi 1]) (D d2_39) rfl rfl ?_
      refine go_iload_n 42 (D d2_41) rfl rfl ?_
      refine go_istore_n 43 (ls' := #[vi (ng (((mag p) / 10 / 10) / 10 / 10)), vi (Int32.ofNat (n0 + (rep p).length)), vr a, vi (ng (((mag p) / 10 / 10) / 10 / 10)), vi (Int32.ofNat (((mag p) / 10 / 10) % 100)), vi (Int32.ofNat (n0 + 7)), vi 1]) (D d2_42) rfl rfl ?_
      refine go_aload_n 44 (D d2_43) rfl rfl rfl ?_
      refine go_iinc 47 (ls' := #[vi (ng (((mag p) / 10 / 10) / 10 / 10)), vi (Int32.ofNat (n0 + (rep p).length)), vr a, vi (ng (((mag p) / 10 / 10) / 10 / 10)), vi (Int32.ofNat (((mag p) / 10 / 10) % 100)), vi (Int32.ofNat (n0 + 6)), vi 1]) (y := (Int32.ofNat (n0 + 6))) (D d2_44) rfl rfl (ofn_dec (n := n0 + 6) (by omega)) rfl ?_
      refine go_iload 49 (D d2_47) rfl rfl ?_
      refine go_old (fun O189 => ?_)
      refine go_getS 52 (wk G 136) ((st_DO G).ext O189.2) (D d2_49) rfl ?_
      refine go_iload 54 (D d2_52) rfl rfl ?_
      refine go_tabO 55 G (n := ((mag p) / 10 / 10) % 100) (v := (dch ((mag p) / 10 / 10))) (by omega) (by unfold dch; congr 1 <;> omega) (D d2_54) rfl ?_
      refine go_stT 56 (i := n0 + 6) (x' := (dch ((mag p) / 10 / 10))) rfl A188 p4 (by simp only [List.length_cons, List.length_nil] <;> omega) (by omega) p1 (dch_i8 _) (D d2_55) rfl (fun h190 W191 A192 => ?_)
      refine go_aload_n 57 (D d2_56) rfl rfl rfl ?_
      refine go_iinc 60 (ls' := #[vi (ng (((mag p) / 10 / 10) / 10 / 10)), vi (Int32.ofNat (n0 + (rep p).length)), vr a, vi (ng (((mag p) / 10 / 10) / 10 / 10)), vi (Int32.ofNat (((mag p) / 10 / 10) % 100)), vi (Int32.ofNat (n0 + 5)), vi 1]) (y := (Int32.ofNat (n0 + 5))) (D d2_57) rfl rfl (ofn_dec (n := n0 + 5) (by omega)) rfl ?_
      refine go_iload 62 (D d2_60) rfl rfl ?_
      refine go_old (fun O193 => ?_)
      refine go_getS 65 (wk G 221) ((st_DT G).ext O193.2) (D d2_62) rfl ?_
      refine go_iload 67 (D d2_65) rfl rfl ?_
      refine go_tabT 68 G (n := ((mag p) / 10 / 10) % 100) (v := (dch (((mag p) / 10 / 10) / 10))) (by omega) (by unfold dch; congr 1 <;> omega) (D d2_67) rfl ?_
      refine go_stT 69 (i := n0 + 5) (x' := (dch (((mag p) / 10 / 10) / 10))) rfl A192 p4 (by simp only [List.length_cons, List.length_nil] <;> omega) (by omega) p1 (dch_i8 _) (D d2_68) rfl (fun h194 W195 A196 => ?_)
      refine go_goto 22 (D d2_69) (by decide) rfl ?_
      refine go_iload_n 23 (D d2_22) rfl rfl ?_
      refine go_bipush 25 (v := (-100)) (D d2_23) rfl rfl ?_
      refine go_icF 28 (D d2_25) rfl (XT.ii_gt_f (fun z => absurd ((ng_le (k := 100) (by have := mag_le p; omega) (by decide) (by decide)).mp z) (by omega))) ?_
      refine go_iload_n 29 (D d2_28) rfl rfl ?_
      refine go_bipush 31 (v := 100) (D d2_29) rfl rfl ?_
      refine go_idiv 32 (z := (ng ((((mag p) / 10 / 10) / 10 / 10) / 10 / 10))) (D d2_31) rfl (by decide) (ng_div2 (by have := mag_le p; omega)) ?_
      refine go_istore_n 33 (ls' := #[vi (ng (((mag p) / 10 / 10) / 10 / 10)), vi (Int32.ofNat (n0 + (rep p).length)), vr a, vi (ng ((((mag p) / 10 / 10) / 10 / 10) / 10 / 10)), vi (Int32.ofNat (((mag p) / 10 / 10) % 100)), vi (Int32.ofNat (n0 + 5)), vi 1]) (D d2_32) rfl rfl ?_
      refine go_iload_n 34 (D d2_33) rfl rfl ?_
      refine go_bipush 36 (v := 100) (D d2_34) rfl rfl ?_
      refine go_imul 37 (z := ((ng ((((mag p) / 10 / 10) / 10 / 10) / 10 / 10)) * (100 : Int32))) (D d2_36) rfl rfl ?_
      refine go_iload_n 38 (D d2_37) rfl rfl ?_
      refine go_isub 39 (z := (Int32.ofNat ((((mag p) / 10 / 10) / 10 / 10) % 100))) (D d2_38) rfl (ng_rem2 (by have := mag_le p; omega)) ?_
      refine go_istore 41 (ls' := #[vi (ng (((mag p) / 10 / 10) / 10 / 10)), vi (Int32.ofNat (n0 + (rep p).length)), vr a, vi (ng ((((mag p) / 10 / 10) / 10 / 10) / 10 / 10)), vi (Int32.ofNat ((((mag p) / 10 / 10) / 10 / 10) % 100)), vi (Int32.ofNat (n0 + 5)), vi 1]) (D d2_39) rfl rfl ?_
      refine go_iload_n 42 (D d2_41) rfl rfl ?_
      refine go_istore_n 43 (ls' := #[vi (ng ((((mag p) / 10 / 10) / 10 / 10) / 10 / 10)), vi (Int32.ofNat (n0 + (rep p).length)), vr a, vi (ng ((((mag p) / 10 / 10) / 10 / 10) / 10 / 10)), vi (Int32.ofNat ((((mag p) / 10 / 10) / 10 / 10) % 100)), vi (Int32.ofNat (n0 + 5)), vi 1]) (D d2_42) rfl rfl ?_
      refine go_aload_n 44 (D d2_43) rfl rfl rfl ?_
      refine go_iinc 47 (ls' := #[vi (ng ((((mag p) / 10 / 10) / 10 / 10) / 10 / 10)), vi (Int32.ofNat (n0 + (rep p).length)), vr a, vi (ng ((((mag p) / 10 / 10) / 10 / 10) / 10 / 10)), vi (Int32.ofNat ((((mag p) / 10 / 10) / 10 / 10) % 100)), vi (Int32.ofNat (n0 + 4)), vi 1]) (y := (Int32.ofNat (n0 + 4))) (D d2_44) rfl rfl (ofn_dec (n := n0 + 4) (by omega)) rfl ?_
      refine go_iload 49 (D d2_47) rfl rfl ?_
      refine go_old (fun O197 => ?_)
      refine go_getS 52 (wk G 136) ((st_DO G).ext O197.2) (D d2_49) rfl ?_
      refine go_iload 54 (D d2_52) rfl rfl ?_
      refine go_tabO 55 G (n := (((mag p) / 10 / 10) / 10 / 10) % 100) (v := (dch (((mag p) / 10 / 10) / 10 / 10))) (by omega) (by unfold dch; congr 1 <;> omega) (D d2_54) rfl ?_
      refine go_stT 56 (i := n0 + 4) (x' := (dch (((mag p) / 10 / 10) / 10 / 10))) rfl A196 p4 (by simp only [List.length_cons, List.length_nil] <;> omega) (by omega) p1 (dch_i8 _) (D d2_55) rfl (fun h198 W199 A200 => ?_)
      refine go_aload_n 57 (D d2_56) rfl rfl rfl ?_
      refine go_iinc 60 (ls' := #[vi (ng ((((mag p) / 10 / 10) / 10 / 10) / 10 / 10)), vi (Int32.ofNat (n0 + (rep p).length)), vr a, vi (ng ((((mag p) / 10 / 10) / 10 / 10) / 10 / 10)), vi (Int32.ofNat ((((mag p) / 10 / 10) / 10 / 10) % 100)), vi (Int32.ofNat (n0 + 3)), vi 1]) (y := (Int32.ofNat (n0 + 3))) (D d2_57) rfl rfl (ofn_dec (n := n0 + 3) (by omega)) rfl ?_
      refine go_iload 62 (D d2_60) rfl rfl ?_
      refine go_old (fun O201 => ?_)
      refine go_getS 65 (wk G 221) ((st_DT G).ext O201.2) (D d2_62) rfl ?_
      refine go_iload 67 (D d2_65) rfl rfl ?_
      refine go_tabT 68 G (n := (((mag p) / 10 / 10) / 10 / 10) % 100) (v := (dch ((((mag p) / 10 / 10) / 10 / 10) / 10))) (by omega) (by unfold dch; congr 1 <;> omega) (D d2_67) rfl ?_
      refine go_stT 69 (i := n0 + 3) (x' := (dch ((((mag p) / 10 / 10) / 10 / 10) / 10))) rfl A200 p4 (by simp only [List.length_cons, List.length_nil] <;> omega) (by omega) p1 (dch_i8 _) (D d2_68) rfl (fun h202 W203 A204 => ?_)
      refine go_goto 22 (D d2_69) (by decide) rfl ?_
      refine go_iload_n 23 (D d2_22) rfl rfl ?_
      refine go_bipush 25 (v := (-100)) (D d2_23) rfl rfl ?_
      refine go_icT 72 (D d2_25) (by decide) rfl (XT.ii_gt_t ((ng_le (k := 100) (by have := mag_le p; omega) (by decide) (by decide)).mpr (by omega))) ?_
      refine go_aload_n 73 (D d2_72) rfl rfl rfl ?_
      refine go_iinc 76 (ls' := #[vi (ng ((((mag p) / 10 / 10) / 10 / 10) / 10 / 10)), vi (Int32.ofNat (n0 + (rep p).length)), vr a, vi (ng ((((mag p) / 10 / 10) / 10 / 10) / 10 / 10)), vi (Int32.ofNat ((((mag p) / 10 / 10) / 10 / 10) % 100)), vi (Int32.ofNat (n0 + 2)), vi 1]) (y := (Int32.ofNat (n0 + 2))) (D d2_73) rfl rfl (ofn_dec (n := n0 + 2) (by omega)) rfl ?_
      refine go_iload 78 (D d2_76) rfl rfl ?_
      refine go_old (fun O205 => ?_)
      refine go_getS 81 (wk G 136) ((st_DO G).ext O205.2) (D d2_78) rfl ?_
      refine go_iload_n 82 (D d2_81) rfl rfl ?_
      refine go_ineg 83 (z := (Int32.ofNat ((((mag p) / 10 / 10) / 10 / 10) / 10 / 10))) (D d2_82) rfl (ng_ng (by omega)) ?_
      refine go_tabO 84 G (n := ((((mag p) / 10 / 10) / 10 / 10) / 10 / 10)) (v := (dch ((((mag p) / 10 / 10) / 10 / 10) / 10 / 10))) (by omega) (by unfold dch; congr 1 <;> omega) (D d2_83) rfl ?_
      refine go_stT 85 (i := n0 + 2) (x' := (dch ((((mag p) / 10 / 10) / 10 / 10) / 10 / 10))) rfl A204 p4 (by simp only [List.length_cons, List.length_nil] <;> omega) (by omega) p1 (dch_i8 _) (D d2_84) rfl (fun h206 W207 A208 => ?_)
      refine go_iload_n 86 (D d2_85) rfl rfl ?_
      refine go_bipush 88 (v := (-9)) (D d2_86) rfl rfl ?_
      refine go_icF 91 (D d2_88) rfl (XT.ii_ge_f ((ng_lt (k := 9) (by have := mag_le p; omega) (by decide) (by decide)).mpr (by omega))) ?_
      refine go_aload_n 92 (D d2_91) rfl rfl rfl ?_
      refine go_iinc 95 (ls' := #[vi (ng ((((mag p) / 10 / 10) / 10 / 10) / 10 / 10)), vi (Int32.ofNat (n0 + (rep p).length)), vr a, vi (ng ((((mag p) / 10 / 10) / 10 / 10) / 10 / 10)), vi (Int32.ofNat ((((mag p) / 10 / 10) / 10 / 10) % 100)), vi (Int32.ofNat (n0 + 1)), vi 1]) (y := (Int32.ofNat (n0 + 1))) (D d2_92) rfl rfl (ofn_dec (n := n0 + 1) (by omega)) rfl ?_
      refine go_iload 97 (D d2_95) rfl rfl ?_
      refine go_old (fun O209 => ?_)
      refine go_getS 100 (wk G 221) ((st_DT G).ext O209.2) (D d2_97) rfl ?_
      refine go_iload_n 101 (D d2_100) rfl rfl ?_
      refine go_ineg 102 (z := (Int32.ofNat ((((mag p) / 10 / 10) / 10 / 10) / 10 / 10))) (D d2_101) rfl (ng_ng (by omega)) ?_
      refine go_tabT 103 G (n := ((((mag p) / 10 / 10) / 10 / 10) / 10 / 10)) (v := (dch (((((mag p) / 10 / 10) / 10 / 10) / 10 / 10) / 10))) (by omega) (by unfold dch; congr 1 <;> omega) (D d2_102) rfl ?_
      refine go_stT 104 (i := n0 + 1) (x' := (dch (((((mag p) / 10 / 10) / 10 / 10) / 10 / 10) / 10))) rfl A208 p4 (by simp only [List.length_cons, List.length_nil] <;> omega) (by omega) p1 (dch_i8 _) (D d2_103) rfl (fun h210 W211 A212 => ?_)
      refine go_iload 106 (D d2_104) rfl rfl ?_
      refine go_ifF 109 (D d2_106) rfl (by decide) ?_
      refine go_aload_n 110 (D d2_109) rfl rfl rfl ?_
      refine go_iinc 113 (ls' := #[vi (ng ((((mag p) / 10 / 10) / 10 / 10) / 10 / 10)), vi (Int32.ofNat (n0 + (rep p).length)), vr a, vi (ng ((((mag p) / 10 / 10) / 10 / 10) / 10 / 10)), vi (Int32.ofNat ((((mag p) / 10 / 10) / 10 / 10) % 100)), vi (Int32.ofNat (n0 + 0)), vi 1]) (y := (Int32.ofNat (n0 + 0))) (D d2_110) rfl rfl (ofn_dec (n := n0 + 0) (by omega)) rfl ?_
      refine go_iload 115 (D d2_113) rfl rfl ?_
      refine go_bipush 117 (v := 45) (D d2_115) rfl rfl ?_
      refine go_stT 118 (i := n0 + 0) (x' := (45 : Int32)) rfl A212 p4 (by simp only [List.length_cons, List.length_nil] <;> omega) (by omega) p1 (by decide) (D d2_117) rfl (fun h213 W214 A215 => ?_)
      refine go_iload 120 (D d2_118) rfl rfl ?_
      have K216 : Keep h0 h182 [a] := ((Keep.refl h0 [a]).wr W183 (Or.inl (by simp)))
      have K217 : Keep h0 h186 [a] := (K216.wr W187 (Or.inl (by simp)))
      have K218 : Keep h0 h190 [a] := (K217.wr W191 (Or.inl (by simp)))
      have K219 : Keep h0 h194 [a] := (K218.wr W195 (Or.inl (by simp)))
      have K220 : Keep h0 h198 [a] := (K219.wr W199 (Or.inl (by simp)))
      have K221 : Keep h0 h202 [a] := (K220.wr W203 (Or.inl (by simp)))
      have K222 : Keep h0 h206 [a] := (K221.wr W207 (Or.inl (by simp)))
      have K223 : Keep h0 h210 [a] := (K222.wr W211 (Or.inl (by simp)))
      have K224 : Keep h0 h213 [a] := (K223.wr W214 (Or.inl (by simp)))
      refine go_ireturn hret hlk rfl (by simp) (D d2_120) (by decide) (by decide) ⟨_, rfl, ⟨(Int32.ofNat (n0 + 0)), rfl, ((show tk L (n0 + 0) [(.int 45), (.int (dch (((((mag p) / 10 / 10) / 10 / 10) / 10 / 10) / 10))), (.int (dch ((((mag p) / 10 / 10) / 10 / 10) / 10 / 10))), (.int (dch ((((mag p) / 10 / 10) / 10 / 10) / 10))), (.int (dch (((mag p) / 10 / 10) / 10 / 10))), (.int (dch (((mag p) / 10 / 10) / 10))), (.int (dch ((mag p) / 10 / 10))), (.int (dch ((mag p) / 10))), (.int (dch (mag p)))] (n0 + 9) = tk L n0 ((rep p).map Value.int) (n0 + (rep p).length) from by rw [n180, rep_n cz1 n2]; rfl) ▸ A215)⟩⟩ K224
    · have n225 : (rep p).length = 10 := rl_n cz1 n2 rfl
      refine go_eqf (g' := mkF m_ 22 #[.val (.int (ng (mag p))), .val (.int (Int32.ofNat (n0 + (rep p).length))), .val (.ref a), .unset, .unset, .val (.int (Int32.ofNat (n0 + 10))), .val (.int 1)] []) (by rw [← ng_neg cz1, n225]) ?_
      have A226 : Arv Z h0 a k .byte (16 : Int32) (tk L (n0 + 10) [] (n0 + 10)) (.int 0) := by rw [tk_start]; exact p5
      refine go_iload_n 23 (D d2_22) rfl rfl ?_
      refine go_bipush 25 (v := (-100)) (D d2_23) rfl rfl ?_
      refine go_icF 28 (D d2_25) rfl (XT.ii_gt_f (fun z => absurd ((ng_le (k := 100) (by have := mag_le p; omega) (by decide) (by decide)).mp z) (by omega))) ?_
      refine go_iload_n 29 (D d2_28) rfl rfl ?_
      refine go_bipush 31 (v := 100) (D d2_29) rfl rfl ?_
      refine go_idiv 32 (z := (ng ((mag p) / 10 / 10))) (D d2_31) rfl (by decide) (ng_div2 (by have := mag_le p; omega)) ?_
      refine go_istore_n 33 (ls' := #[vi (ng (mag p)), vi (Int32.ofNat (n0 + (rep p).length)), vr a, vi (ng ((mag p) / 10 / 10)), un, vi (Int32.ofNat (n0 + 10)), vi 1]) (D d2_32) rfl rfl ?_
      refine go_iload_n 34 (D d2_33) rfl rfl ?_
      refine go_bipush 36 (v := 100) (D d2_34) rfl rfl ?_
      refine go_imul 37 (z := ((ng ((mag p) / 10 / 10)) * (100 : Int32))) (D d2_36) rfl rfl ?_
      refine go_iload_n 38 (D d2_37) rfl rfl ?_
      refine go_isub 39 (z := (Int32.ofNat ((mag p) % 100))) (D d2_38) rfl (ng_rem2 (by have := mag_le p; omega)) ?_
      refine go_istore 41 (ls' := #[vi (ng (mag p)), vi (Int32.ofNat (n0 + (rep p).length)), vr a, vi (ng ((mag p) / 10 / 10)), vi (Int32.ofNat ((mag p) % 100)), vi (Int32.ofNat (n0 + 10)), vi 1]) (D d2_39) rfl rfl ?_
      refine go_iload_n 42 (D d2_41) rfl rfl ?_
      refine go_istore_n 43 (ls' := #[vi (ng ((mag p) / 10 / 10)), vi (Int32.ofNat (n0 + (rep p).length)), vr a, vi (ng ((mag p) / 10 / 10)), vi (Int32.ofNat ((mag p) % 100)), vi (Int32.ofNat (n0 + 10)), vi 1]) (D d2_42) rfl rfl ?_
      refine go_aload_n 44 (D d2_43) rfl rfl rfl ?_
      refine go_iinc 47 (ls' := #[vi (ng ((mag p) / 10 / 10)), vi (Int32.ofNat (n0 + (rep p).length)), vr a, vi (ng ((mag p) / 10 / 10)), vi (Int32.ofNat ((mag p) % 100)), vi (Int32.ofNat (n0 + 9)), vi 1]) (y := (Int32.ofNat (n0 + 9))) (D d2_44) rfl rfl (ofn_dec (n := n0 + 9) (by omega)) rfl ?_
      refine go_iload 49 (D d2_47) rfl rfl ?_
      refine go_getS 52 (wk G 136) ((st_DO G).ext O0.2) (D d2_49) rfl ?_
      refine go_iload 54 (D d2_52) rfl rfl ?_
      refine go_tabO 55 G (n := (mag p) % 100) (v := (dch (mag p))) (by omega) (by unfold dch; congr 1 <;> omega) (D d2_54) rfl ?_
      refine go_stT 56 (i := n0 + 9) (x' := (dch (mag p))) rfl A226 p4 (by simp only [List.length_cons, List.length_nil] <;> omega) (by omega) p1 (dch_i8 _) (D d2_55) rfl (fun h227 W228 A229 => ?_)
      refine go_aload_n 57 (D d2_56) rfl rfl rfl ?_
      refine go_iinc 60 (ls' := #[vi (ng ((mag p) / 10 / 10)), vi (Int32.ofNat (n0 + (rep p).length)), vr a, vi (ng ((mag p) / 10 / 10)), vi (Int32.ofNat ((mag p) % 100)), vi (Int32.ofNat (n0 + 8)), vi 1]) (y := (Int32.ofNat (n0 + 8))) (D d2_57) rfl rfl (ofn_dec (n := n0 + 8) (by omega)) rfl ?_
      refine go_iload 62 (D d2_60) rfl rfl ?_
      refine go_old (fun O230 => ?_)
      refine go_getS 65 (wk G 221) ((st_DT G).ext O230.2) (D d2_62) rfl ?_
      refine go_iload 67 (D d2_65) rfl rfl ?_
      refine go_tabT 68 G (n := (mag p) % 100) (v := (dch ((mag p) / 10))) (by omega) (by unfold dch; congr 1 <;> omega) (D d2_67) rfl ?_
      refine go_stT 69 (i := n0 + 8) (x' := (dch ((mag p) / 10))) rfl A229 p4 (by simp only [List.length_cons, List.length_nil] <;> omega) (by omega) p1 (dch_i8 _) (D d2_68) rfl (fun h231 W232 A233 => ?_)
      refine go_goto 22 (D d2_69) (by decide) rfl ?_
      refine go_iload_n 23 (D d2_22) rfl rfl ?_
      refine go_bipush 25 (v := (-100)) (D d2_23) rfl rfl ?_
      refine go_icF 28 (D d2_25) rfl (XT.ii_gt_f (fun z => absurd ((ng_le (k := 100) (by have := mag_le p; omega) (by decide) (by decide)).mp z) (by omega))) ?_
      refine go_iload_n 29 (D d2_28) rfl rfl ?_
      refine go_bipush 31 (v := 100) (D d2_29) rfl rfl ?_
      refine go_idiv 32 (z := (ng (((mag p) / 10 / 10) / 10 / 10))) (D d2_31) rfl (by decide) (ng_div2 (by have := mag_le p; omega)) ?_
      refine go_istore_n 33 (ls' := #[vi (ng ((mag p) / 10 / 10)), vi (Int32.ofNat (n0 + (rep p).length)), vr a, vi (ng (((mag p) / 10 / 10) / 10 / 10)), vi (Int32.ofNat ((mag p) % 100)), vi (Int32.ofNat (n0 + 8)), vi 1]) (D d2_32) rfl rfl ?_
      refine go_iload_n 34 (D d2_33) rfl rfl ?_
      refine go_bipush 36 (v := 100) (D d2_34) rfl rfl ?_
      refine go_imul 37 (z := ((ng (((mag p) / 10 / 10) / 10 / 10)) * (100 : Int32))) (D d2_36) rfl rfl ?_
      refine go_iload_n 38 (D d2_37) rfl rfl ?_
      refine go_isub 39 (z := (Int32.ofNat (((mag p) / 10 / 10) % 100))) (D d2_38) rfl (ng_rem2 (by have := mag_le p; omega)) ?_
      refine go_istore 41 (ls' := #[vi (ng ((mag p) / 10 / 10)), vi (Int32.ofNat (n0 + (rep p).length)), vr a, vi (ng (((mag p) / 10 / 10) / 10 / 10)), vi (Int32.ofNat (((mag p) / 10 / 10) % 100)), vi (Int32.ofNat (n0 + 8)), vi 1]) (D d2_39) rfl rfl ?_
      refine go_iload_n 42 (D d2_41) rfl rfl ?_
      refine go_istore_n 43 (ls' := #[vi (ng (((mag p) / 10 / 10) / 10 / 10)), vi (Int32.ofNat (n0 + (rep p).length)), vr a, vi (ng (((mag p) / 10 / 10) / 10 / 10)), vi (Int32.ofNat (((mag p) / 10 / 10) % 100)), vi (Int32.ofNat (n0 + 8)), vi 1]) (D d2_42) rfl rfl ?_
      refine go_aload_n 44 (D d2_43) rfl rfl rfl ?_
      refine go_iinc 47 (ls' := #[vi (ng (((mag p) / 10 / 10) / 10 / 10)), vi (Int32.ofNat (n0 + (rep p).length)), vr a, vi (ng (((mag p) / 10 / 10) / 10 / 10)), vi (Int32.ofNat (((mag p) / 10 / 10) % 100)), vi (Int32.ofNat (n0 + 7)), vi 1]) (y := (Int32.ofNat (n0 + 7))) (D d2_44) rfl rfl (ofn_dec (n := n0 + 7) (by omega)) rfl ?_
      refine go_iload 49 (D d2_47) rfl rfl ?_
      refine go_old (fun O234 => ?_)
      refine go_getS 52 (wk G 136) ((st_DO G).ext O234.2) (D d2_49) rfl ?_
      refine go_iload 54 (D d2_52) rfl rfl ?_
      refine go_tabO 55 G (n := ((mag p) / 10 / 10) % 100) (v := (dch ((mag p) / 10 / 10))) (by omega) (by unfold dch; congr 1 <;> omega) (D d2_54) rfl ?_
      refine go_stT 56 (i := n0 + 7) (x' := (dch ((mag p) / 10 / 10))) rfl A233 p4 (by simp only [List.length_cons, List.length_nil] <;> omega) (by omega) p1 (dch_i8 _) (D d2_55) rfl (fun h235 W236 A237 => ?_)
      refine go_aload_n 57 (D d2_56) rfl rfl rfl ?_
      refine go_iinc 60 (ls' := #[vi (ng (((mag p) / 10 / 10) / 10 / 10)), vi (Int32.ofNat (n0 + (rep p).length)), vr a, vi (ng (((mag p) / 10 / 10) / 10 / 10)), vi (Int32.ofNat (((mag p) / 10 / 10) % 100)), vi (Int32.ofNat (n0 + 6)), vi 1]) (y := (Int32.ofNat (n0 + 6))) (D d2_57) rfl rfl (ofn_dec (n := n0 + 6) (by omega)) rfl ?_
      refine go_iload 62 (D d2_60) rfl rfl ?_
      refine go_old (fun O238 => ?_)
      refine go_getS 65 (wk G 221) ((st_DT G).ext O238.2) (D d2_62) rfl ?_
      refine go_iload 67 (D d2_65) rfl rfl ?_
      refine go_tabT 68 G (n := ((mag p) / 10 / 10) % 100) (v := (dch (((mag p) / 10 / 10) / 10))) (by omega) (by unfold dch; congr 1 <;> omega) (D d2_67) rfl ?_
      refine go_stT 69 (i := n0 + 6) (x' := (dch (((mag p) / 10 / 10) / 10))) rfl A237 p4 (by simp only [List.length_cons, List.length_nil] <;> omega) (by omega) p1 (dch_i8 _) (D d2_68) rfl (fun h239 W240 A241 => ?_)
      refine go_goto 22 (D d2_69) (by decide) rfl ?_
      refine go_iload_n 23 (D d2_22) rfl rfl ?_
      refine go_bipush 25 (v := (-100)) (D d2_23) rfl rfl ?_
      refine go_icF 28 (D d2_25) rfl (XT.ii_gt_f (fun z => absurd ((ng_le (k := 100) (by have := mag_le p; omega) (by decide) (by decide)).mp z) (by omega))) ?_
      refine go_iload_n 29 (D d2_28) rfl rfl ?_
      refine go_bipush 31 (v := 100) (D d2_29) rfl rfl ?_
      refine go_idiv 32 (z := (ng ((((mag p) / 10 / 10) / 10 / 10) / 10 / 10))) (D d2_31) rfl (by decide) (ng_div2 (by have := mag_le p; omega)) ?_
      refine go_istore_n 33 (ls' := #[vi (ng (((mag p) / 10 / 10) / 10 / 10)), vi (Int32.ofNat (n0 + (rep p).length)), vr a, vi (ng ((((mag p) / 10 / 10) / 10 / 10) / 10 / 10)), vi (Int32.ofNat (((mag p) / 10 / 10) % 100)), vi (Int32.ofNat (n0 + 6)), vi 1]) (D d2_32) rfl rfl ?_
      refine go_iload_n 34 (D d2_33) rfl rfl ?_
      refine go_bipush 36 (v := 100) (D d2_34) rfl rfl ?_
      refine go_imul 37 (z := ((ng ((((mag p) / 10 / 10) / 10 / 10) / 10 / 10)) * (100 : Int32))) (D d2_36) rfl rfl ?_
      refine go_iload_n 38 (D d2_37) rfl rfl ?_
      refine go_isub 39 (z := (Int32.ofNat ((((mag p) / 10 / 10) / 10 / 10) % 100))) (D d2_38) rfl (ng_rem2 (by have := mag_le p; omega)) ?_
      refine go_istore 41 (ls' := #[vi (ng (((mag p) / 10 / 10) / 10 / 10)), vi (Int32.ofNat (n0 + (rep p).length)), vr a, vi (ng ((((mag p) / 10 / 10) / 10 / 10) / 10 / 10)), vi (Int32.ofNat ((((mag p) / 10 / 10) / 10 / 10) % 100)), vi (Int32.ofNat (n0 + 6)), vi 1]) (D d2_39) rfl rfl ?_
      refine go_iload_n 42 (D d2_41) rfl rfl ?_
      refine go_istore_n 43 (ls' := #[vi (ng ((((mag p) / 10 / 10) / 10 / 10) / 10 / 10)), vi (Int32.ofNat (n0 + (rep p).length)), vr a, vi (ng ((((mag p) / 10 / 10) / 10 / 10) / 10 / 10)), vi (Int32.ofNat ((((mag p) / 10 / 10) / 10 / 10) % 100)), vi (Int32.ofNat (n0 + 6)), vi 1]) (D d2_42) rfl rfl ?_
      refine go_aload_n 44 (D d2_43) rfl rfl rfl ?_
      refine go_iinc 47 (ls' := #[vi (ng ((((mag p) / 10 / 10) / 10 / 10) / 10 / 10)), vi (Int32.ofNat (n0 + (rep p).length)), vr a, vi (ng ((((mag p) / 10 / 10) / 10 / 10) / 10 / 10)), vi (Int32.ofNat ((((mag p) / 10 / 10) / 10 / 10) % 100)), vi (Int32.ofNat (n0 + 5)), vi 1]) (y := (Int32.ofNat (n0 + 5))) (D d2_44) rfl rfl (ofn_dec (n := n0 + 5) (by omega)) rfl ?_
      refine go_iload 49 (D d2_47) rfl rfl ?_
      refine go_old (fun O242 => ?_)
      refine go_getS 52 (wk G 136) ((st_DO G).ext O242.2) (D d2_49) rfl ?_
      refine go_iload 54 (D d2_52) rfl rfl ?_
      refine go_tabO 55 G (n := (((mag p) / 10 / 10) / 10 / 10) % 100) (v := (dch (((mag p) / 10 / 10) / 10 / 10))) (by omega) (by unfold dch; congr 1 <;> omega) (D d2_54) rfl ?_
      refine go_stT 56 (i := n0 + 5) (x' := (dch (((mag p) / 10 / 10) / 10 / 10))) rfl A241 p4 (by simp only [List.length_cons, List.length_nil] <;> omega) (by omega) p1 (dch_i8 _) (D d2_55) rfl (fun h243 W244 A245 => ?_)
      refine go_aload_n 57 (D d2_56) rfl rfl rfl ?_
      refine go_iinc 60 (ls' := #[vi (ng ((((mag p) / 10 / 10) / 10 / 10) / 10 / 10)), vi (Int32.ofNat (n0 + (rep p).length)), vr a, vi (ng ((((mag p) / 10 / 10) / 10 / 10) / 10 / 10)), vi (Int32.ofNat ((((mag p) / 10 / 10) / 10 / 10) % 100)), vi (Int32.ofNat (n0 + 4)), vi 1]) (y := (Int32.ofNat (n0 + 4))) (D d2_57) rfl rfl (ofn_dec (n := n0 + 4) (by omega)) rfl ?_
      refine go_iload 62 (D d2_60) rfl rfl ?_
      refine go_old (fun O246 => ?_)
      refine go_getS 65 (wk G 221) ((st_DT G).ext O246.2) (D d2_62) rfl ?_
      refine go_iload 67 (D d2_65) rfl rfl ?_
      refine go_tabT 68 G (n := (((mag p) / 10 / 10) / 10 / 10) % 100) (v := (dch ((((mag p) / 10 / 10) / 10 / 10) / 10))) (by omega) (by unfold dch; congr 1 <;> omega) (D d2_67) rfl ?_
      refine go_stT 69 (i := n0 + 4) (x' := (dch ((((mag p) / 10 / 10) / 10 / 10) / 10))) rfl A245 p4 (by simp only [List.length_cons, List.length_nil] <;> omega) (by omega) p1 (dch_i8 _) (D d2_68) rfl (fun h247 W248 A249 => ?_)
      refine go_goto 22 (D d2_69) (by decide) rfl ?_
      refine go_iload_n 23 (D d2_22) rfl rfl ?_
      refine go_bipush 25 (v := (-100)) (D d2_23) rfl rfl ?_
      refine go_icF 28 (D d2_25) rfl (XT.ii_gt_f (fun z => absurd ((ng_le (k := 100) (by have := mag_le p; omega) (by decide) (by decide)).mp z) (by omega))) ?_
      refine go_iload_n 29 (D d2_28) rfl rfl ?_
      refine go_bipush 31 (v := 100) (D d2_29) rfl rfl ?_
      refine go_idiv 32 (z := (ng (((((mag p) / 10 / 10) / 10 / 10) / 10 / 10) / 10 / 10))) (D d2_31) rfl (by decide) (ng_div2 (by have := mag_le p; omega)) ?_
      refine go_istore_n 33 (ls' := #[vi (ng ((((mag p) / 10 / 10) / 10 / 10) / 10 / 10)), vi (Int32.ofNat (n0 + (rep p).length)), vr a, vi (ng (((((mag p) / 10 / 10) / 10 / 10) / 10 / 10) / 10 / 10)), vi (Int32.ofNat ((((mag p) / 10 / 10) / 10 / 10) % 100)), vi (Int32.ofNat (n0 + 4)), vi 1]) (D d2_32) rfl rfl ?_
      refine go_iload_n 34 (D d2_33) rfl rfl ?_
      refine go_bipush 36 (v := 100) (D d2_34) rfl rfl ?_
      refine go_imul 37 (z := ((ng (((((mag p) / 10 / 10) / 10 / 10) / 10 / 10) / 10 / 10)) * (100 : Int32))) (D d2_36) rfl rfl ?_
      refine go_iload_n 38 (D d2_37) rfl rfl ?_
      refine go_isub 39 (z := (Int32.ofNat (((((mag p) / 10 / 10) / 10 / 10) / 10 / 10) % 100))) (D d2_38) rfl (ng_rem2 (by have := mag_le p; omega)) ?_
      refine go_istore 41 (ls' := #[vi (ng ((((mag p) / 10 / 10) / 10 / 10) / 10 / 10)), vi (Int32.ofNat (n0 + (rep p).length)), vr a, vi (ng (((((mag p) / 10 / 10) / 10 / 10) / 10 / 10) / 10 / 10)), vi (Int32.ofNat (((((mag p) / 10 / 10) / 10 / 10) / 10 / 10) % 100)), vi (Int32.ofNat (n0 + 4)), vi 1]) (D d2_39) rfl rfl ?_
      refine go_iload_n 42 (D d2_41) rfl rfl ?_
      refine go_istore_n 43 (ls' := #[vi (ng (((((mag p) / 10 / 10) / 10 / 10) / 10 / 10) / 10 / 10)), vi (Int32.ofNat (n0 + (rep p).length)), vr a, vi (ng (((((mag p) / 10 / 10) / 10 / 10) / 10 / 10) / 10 / 10)), vi (Int32.ofNat (((((mag p) / 10 / 10) / 10 / 10) / 10 / 10) % 100)), vi (Int32.ofNat (n0 + 4)), vi 1]) (D d2_42) rfl rfl ?_
      refine go_aload_n 44 (D d2_43) rfl rfl rfl ?_
      refine go_iinc 47 (ls' := #[vi (ng (((((mag p) / 10 / 10) / 10 / 10) / 10 / 10) / 10 / 10)), vi (Int32.ofNat (n0 + (rep p).length)), vr a, vi (ng (((((mag p) / 10 / 10) / 10 / 10) / 10 / 10) / 10 / 10)), vi (Int32.ofNat (((((mag p) / 10 / 10) / 10 / 10) / 10 / 10) % 100)), vi (Int32.ofNat (n0 + 3)), vi 1]) (y := (Int32.ofNat (n0 + 3))) (D d2_44) rfl rfl (ofn_dec (n := n0 + 3) (by omega)) rfl ?_
      refine go_iload 49 (D d2_47) rfl rfl ?_
      refine go_old (fun O250 => ?_)
      refine go_getS 52 (wk G 136) ((st_DO G).ext O250.2) (D d2_49) rfl ?_
      refine go_iload 54 (D d2_52) rfl rfl ?_
      refine go_tabO 55 G (n := ((((mag p) / 10 / 10) / 10 / 10) / 10 / 10) % 100) (v := (dch ((((mag p) / 10 / 10) / 10 / 10) / 10 / 10))) (by omega) (by unfold dch; congr 1 <;> omega) (D d2_54) rfl ?_
      refine go_stT 56 (i := n0 + 3) (x' := (dch ((((mag p) / 10 / 10) / 10 / 10) / 10 / 10))) rfl A249 p4 (by simp only [List.length_cons, List.length_nil] <;> omega) (by omega) p1 (dch_i8 _) (D d2_55) rfl (fun h251 W252 A253 => ?_)
      refine go_aload_n 57 (D d2_56) rfl rfl rfl ?_
      refine go_iinc 60 (ls' := #[vi (ng (((((mag p) / 10 / 10) / 10 / 10) / 10 / 10) / 10 / 10)), vi (Int32.ofNat (n0 + (rep p).length)), vr a, vi (ng (((((mag p) / 10 / 10) / 10 / 10) / 10 / 10) / 10 / 10)), vi (Int32.ofNat (((((mag p) / 10 / 10) / 10 / 10) / 10 / 10) % 100)), vi (Int32.ofNat (n0 + 2)), vi 1]) (y := (Int32.ofNat (n0 + 2))) (D d2_57) rfl rfl (ofn_dec (n := n0 + 2) (by omega)) rfl ?_
      refine go_iload 62 (D d2_60) rfl rfl ?_
      refine go_old (fun O254 => ?_)
      refine go_getS 65 (wk G 221) ((st_DT G).ext O254.2) (D d2_62) rfl ?_
      refine go_iload 67 (D d2_65) rfl rfl ?_
      refine go_tabT 68 G (n := ((((mag p) / 10 / 10) / 10 / 10) / 10 / 10) % 100) (v := (dch (((((mag p) / 10 / 10) / 10 / 10) / 10 / 10) / 10))) (by omega) (by unfold dch; congr 1 <;> omega) (D d2_67) rfl ?_
      refine go_stT 69 (i := n0 + 2) (x' := (dch (((((mag p) / 10 / 10) / 10 / 10) / 10 / 10) / 10))) rfl A253 p4 (by simp only [List.length_cons, List.length_nil] <;> omega) (by omega) p1 (dch_i8 _) (D d2_68) rfl (fun h255 W256 A257 => ?_)
      refine go_goto 22 (D d2_69) (by decide) rfl ?_
      refine go_iload_n 23 (D d2_22) rfl rfl ?_
      refine go_bipush 25 (v := (-100)) (D d2_23) rfl rfl ?_
      refine go_icT 72 (D d2_25) (by decide) rfl (XT.ii_gt_t ((ng_le (k := 100) (by have := mag_le p; omega) (by decide) (by decide)).mpr (by omega))) ?_
      refine go_aload_n 73 (D d2_72) rfl rfl rfl ?_
      refine go_iinc 76 (ls' := #[vi (ng (((((mag p) / 10 / 10) / 10 / 10) / 10 / 10) / 10 / 10)), vi (Int32.ofNat (n0 + (rep p).length)), vr a, vi (ng (((((mag p) / 10 / 10) / 10 / 10) / 10 / 10) / 10 / 10)), vi (Int32.ofNat (((((mag p) / 10 / 10) / 10 / 10) / 10 / 10) % 100)), vi (Int32.ofNat (n0 + 1)), vi 1]) (y := (Int32.ofNat (n0 + 1))) (D d2_73) rfl rfl (ofn_dec (n := n0 + 1) (by omega)) rfl ?_
      refine go_iload 78 (D d2_76) rfl rfl ?_
      refine go_old (fun O258 => ?_)
      refine go_getS 81 (wk G 136) ((st_DO G).ext O258.2) (D d2_78) rfl ?_
      refine go_iload_n 82 (D d2_81) rfl rfl ?_
      refine go_ineg 83 (z := (Int32.ofNat (((((mag p) / 10 / 10) / 10 / 10) / 10 / 10) / 10 / 10))) (D d2_82) rfl (ng_ng (by omega)) ?_
      refine go_tabO 84 G (n := (((((mag p) / 10 / 10) / 10 / 10) / 10 / 10) / 10 / 10)) (v := (dch (((((mag p) / 10 / 10) / 10 / 10) / 10 / 10) / 10 / 10))) (by omega) (by unfold dch; congr 1 <;> omega) (D d2_83) rfl ?_
      refine go_stT 85 (i := n0 + 1) (x' := (dch (((((mag p) / 10 / 10) / 10 / 10) / 10 / 10) / 10 / 10))) rfl A257 p4 (by simp only [List.length_cons, List.length_nil] <;> omega) (by omega) p1 (dch_i8 _) (D d2_84) rfl (fun h259 W260 A261 => ?_)
      refine go_iload_n 86 (D d2_85) rfl rfl ?_
      refine go_bipush 88 (v := (-9)) (D d2_86) rfl rfl ?_
      refine go_icT 104 (D d2_88) (by decide) rfl (XT.ii_ge_t (fun z => absurd ((ng_lt (k := 9) (by have := mag_le p; omega) (by decide) (by decide)).mp z) (by omega))) ?_
      refine go_iload 106 (D d2_104) rfl rfl ?_
      refine go_ifF 109 (D d2_106) rfl (by decide) ?_
      refine go_aload_n 110 (D d2_109) rfl rfl rfl ?_
      refine go_iinc 113 (ls' := #[vi (ng (((((mag p) / 10 / 10) / 10 / 10) / 10 / 10) / 10 / 10)), vi (Int32.ofNat (n0 + (rep p).length)), vr a, vi (ng (((((mag p) / 10 / 10) / 10 / 10) / 10 / 10) / 10 / 10)), vi (Int32.ofNat (((((mag p) / 10 / 10) / 10 / 10) / 10 / 10) % 100)), vi (Int32.ofNat (n0 + 0)), vi 1]) (y := (Int32.ofNat (n0 + 0))) (D d2_110) rfl rfl (ofn_dec (n := n0 + 0) (by omega)) rfl ?_
      refine go_iload 115 (D d2_113) rfl rfl ?_
      refine go_bipush 117 (v := 45) (D d2_115) rfl rfl ?_
      refine go_stT 118 (i := n0 + 0) (x' := (45 : Int32)) rfl A261 p4 (by simp only [List.length_cons, List.length_nil] <;> omega) (by omega) p1 (by decide) (D d2_117) rfl (fun h262 W263 A264 => ?_)
      refine go_iload 120 (D d2_118) rfl rfl ?_
      have K265 : Keep h0 h227 [a] := ((Keep.refl h0 [a]).wr W228 (Or.inl (by simp)))
      have K266 : Keep h0 h231 [a] := (K265.wr W232 (Or.inl (by simp)))
      have K267 : Keep h0 h235 [a] := (K266.wr W236 (Or.inl (by simp)))
      have K268 : Keep h0 h239 [a] := (K267.wr W240 (Or.inl (by simp)))
      have K269 : Keep h0 h243 [a] := (K268.wr W244 (Or.inl (by simp)))
      have K270 : Keep h0 h247 [a] := (K269.wr W248 (Or.inl (by simp)))
      have K271 : Keep h0 h251 [a] := (K270.wr W252 (Or.inl (by simp)))
      have K272 : Keep h0 h255 [a] := (K271.wr W256 (Or.inl (by simp)))
      have K273 : Keep h0 h259 [a] := (K272.wr W260 (Or.inl (by simp)))
      have K274 : Keep h0 h262 [a] := (K273.wr W263 (Or.inl (by simp)))
      refine go_ireturn hret hlk rfl (by simp) (D d2_120) (by decide) (by decide) ⟨_, rfl, ⟨(Int32.ofNat (n0 + 0)), rfl, ((show tk L (n0 + 0) [(.int 45), (.int (dch (((((mag p) / 10 / 10) / 10 / 10) / 10 / 10) / 10 / 10))), (.int (dch (((((mag p) / 10 / 10) / 10 / 10) / 10 / 10) / 10))), (.int (dch ((((mag p) / 10 / 10) / 10 / 10) / 10 / 10))), (.int (dch ((((mag p) / 10 / 10) / 10 / 10) / 10))), (.int (dch (((mag p) / 10 / 10) / 10 / 10))), (.int (dch (((mag p) / 10 / 10) / 10))), (.int (dch ((mag p) / 10 / 10))), (.int (dch ((mag p) / 10))), (.int (dch (mag p)))] (n0 + 10) = tk L n0 ((rep p).map Value.int) (n0 + (rep p).length) from by rw [n225, rep_n cz1 n2]; rfl) ▸ A264)⟩⟩ K274
    · have n275 : (rep p).length = 11 := rl_n cz1 n2 rfl
      have n4 := mag_le p
      refine go_eqf (g' := mkF m_ 22 #[.val (.int (ng (mag p))), .val (.int (Int32.ofNat (n0 + (rep p).length))), .val (.ref a), .unset, .unset, .val (.int (Int32.ofNat (n0 + 11))), .val (.int 1)] []) (by rw [← ng_neg cz1, n275]) ?_
      have A276 : Arv Z h0 a k .byte (16 : Int32) (tk L (n0 + 11) [] (n0 + 11)) (.int 0) := by rw [tk_start]; exact p5
      refine go_iload_n 23 (D d2_22) rfl rfl ?_
      refine go_bipush 25 (v := (-100)) (D d2_23) rfl rfl ?_
      refine go_icF 28 (D d2_25) rfl (XT.ii_gt_f (fun z => absurd ((ng_le (k := 100) (by have := mag_le p; omega) (by decide) (by decide)).mp z) (by omega))) ?_
      refine go_iload_n 29 (D d2_28) rfl rfl ?_
      refine go_bipush 31 (v := 100) (D d2_29) rfl rfl ?_
      refine go_idiv 32 (z := (ng ((mag p) / 10 / 10))) (D d2_31) rfl (by decide) (ng_div2 (by have := mag_le p; omega)) ?_
      refine go_istore_n 33 (ls' := #[vi (ng (mag p)), vi (Int32.ofNat (n0 + (rep p).length)), vr a, vi (ng ((mag p) / 10 / 10)), un, vi (Int32.ofNat (n0 + 11)), vi 1]) (D d2_32) rfl rfl ?_
      refine go_iload_n 34 (D d2_33) rfl rfl ?_
      refine go_bipush 36 (v := 100) (D d2_34) rfl rfl ?_
      refine go_imul 37 (z := ((ng ((mag p) / 10 / 10)) * (100 : Int32))) (D d2_36) rfl rfl ?_
      refine go_iload_n 38 (D d2_37) rfl rfl ?_
      refine go_isub 39 (z := (Int32.ofNat ((mag p) % 100))) (D d2_38) rfl (ng_rem2 (by have := mag_le p; omega)) ?_
      refine go_istore 41 (ls' := #[vi (ng (mag p)), vi (Int32.ofNat (n0 + (rep p).length)), vr a, vi (ng ((mag p) / 10 / 10)), vi (Int32.ofNat ((mag p) % 100)), vi (Int32.ofNat (n0 + 11)), vi 1]) (D d2_39) rfl rfl ?_
      refine go_iload_n 42 (D d2_41) rfl rfl ?_
      refine go_istore_n 43 (ls' := #[vi (ng ((mag p) / 10 / 10)), vi (Int32.ofNat (n0 + (rep p).length)), vr a, vi (ng ((mag p) / 10 / 10)), vi (Int32.ofNat ((mag p) % 100)), vi (Int32.ofNat (n0 + 11)), vi 1]) (D d2_42) rfl rfl ?_
      refine go_aload_n 44 (D d2_43) rfl rfl rfl ?_
      refine go_iinc 47 (ls' := #[vi (ng ((mag p) / 10 / 10)), vi (Int32.ofNat (n0 + (rep p).length)), vr a, vi (ng ((mag p) / 10 / 10)), vi (Int32.ofNat ((mag p) % 100)), vi (Int32.ofNat (n0 + 10)), vi 1]) (y := (Int32.ofNat (n0 + 10))) (D d2_44) rfl rfl (ofn_dec (n := n0 + 10) (by omega)) rfl ?_
      refine go_iload 49 (D d2_47) rfl rfl ?_
      refine go_getS 52 (wk G 136) ((st_DO G).ext O0.2) (D d2_49) rfl ?_
      refine go_iload 54 (D d2_52) rfl rfl ?_
      refine go_tabO 55 G (n := (mag p) % 100) (v := (dch (mag p))) (by omega) (by unfold dch; congr 1 <;> omega) (D d2_54) rfl ?_
      refine go_stT 56 (i := n0 + 10) (x' := (dch (mag p))) rfl A276 p4 (by simp only [List.length_cons, List.length_nil] <;> omega) (by omega) p1 (dch_i8 _) (D d2_55) rfl (fun h277 W278 A279 => ?_)
      refine go_aload_n 57 (D d2_56) rfl rfl rfl ?_
      refine go_iinc 60 (ls' := #[vi (ng ((mag p) / 10 / 10)), vi (Int32.ofNat (n0 + (rep p).length)), vr a, vi (ng ((mag p) / 10 / 10)), vi (Int32.ofNat ((mag p) % 100)), vi (Int32.ofNat (n0 + 9)), vi 1]) (y := (Int32.ofNat (n0 + 9))) (D d2_57) rfl rfl (ofn_dec (n := n0 + 9) (by omega)) rfl ?_
      refine go_iload 62 (D d2_60) rfl rfl ?_
      refine go_old (fun O280 => ?_)
      refine go_getS 65 (wk G 221) ((st_DT G).ext O280.2) (D d2_62) rfl ?_
      refine go_iload 67 (D d2_65) rfl rfl ?_
      refine go_tabT 68 G (n := (mag p) % 100) (v := (dch ((mag p) / 10))) (by omega) (by unfold dch; congr 1 <;> omega) (D d2_67) rfl ?_
      refine go_stT 69 (i := n0 + 9) (x' := (dch ((mag p) / 10))) rfl A279 p4 (by simp only [List.length_cons, List.length_nil] <;> omega) (by omega) p1 (dch_i8 _) (D d2_68) rfl (fun h281 W282 A283 => ?_)
      refine go_goto 22 (D d2_69) (by decide) rfl ?_
      refine go_iload_n 23 (D d2_22) rfl rfl ?_
      refine go_bipush 25 (v := (-100)) (D d2_23) rfl rfl ?_
      refine go_icF 28 (D d2_25) rfl (XT.ii_gt_f (fun z => absurd ((ng_le (k := 100) (by have := mag_le p; omega) (by decide) (by decide)).mp z) (by omega))) ?_
      refine go_iload_n 29 (D d2_28) rfl rfl ?_
      refine go_bipush 31 (v := 100) (D d2_29) rfl rfl ?_
      refine go_idiv 32 (z := (ng (((mag p) / 10 / 10) / 10 / 10))) (D d2_31) rfl (by decide) (ng_div2 (by have := mag_le p; omega)) ?_
      refine go_istore_n 33 (ls' := #[vi (ng ((mag p) / 10 / 10)), vi (Int32.ofNat (n0 + (rep p).length)), vr a, vi (ng (((mag p) / 10 / 10) / 10 / 10)), vi (Int32.ofNat ((mag p) % 100)), vi (Int32.ofNat (n0 + 9)), vi 1]) (D d2_32) rfl rfl ?_
      refine go_iload_n 34 (D d2_33) rfl rfl ?_
      refine go_bipush 36 (v := 100) (D d2_34) rfl rfl ?_
      refine go_imul 37 (z := ((ng (((mag p) / 10 / 10) / 10 / 10)) * (100 : Int32))) (D d2_36) rfl rfl ?_
      refine go_iload_n 38 (D d2_37) rfl rfl ?_
      refine go_isub 39 (z := (Int32.ofNat (((mag p) / 10 / 10) % 100))) (D d2_38) rfl (ng_rem2 (by have := mag_le p; omega)) ?_
      refine go_istore 41 (ls' := #[vi (ng ((mag p) / 10 / 10)), vi (Int32.ofNat (n0 + (rep p).length)), vr a, vi (ng (((mag p) / 10 / 10) / 10 / 10)), vi (Int32.ofNat (((mag p) / 10 / 10) % 100)), vi (Int32.ofNat (n0 + 9)), vi 1]) (D d2_39) rfl rfl ?_
      refine go_iload_n 42 (D d2_41) rfl rfl ?_
      refine go_istore_n 43 (ls' := #[vi (ng (((mag p) / 10 / 10) / 10 / 10)), vi (Int32.ofNat (n0 + (rep p).length)), vr a, vi (ng (((mag p) / 10 / 10) / 10 / 10)), vi (Int32.ofNat (((mag p) / 10 / 10) % 100)), vi (Int32.ofNat (n0 + 9)), vi 1]) (D d2_42) rfl rfl ?_
      refine go_aload_n 44 (D d2_43) rfl rfl rfl ?_
      refine go_iinc 47 (ls' := #[vi (ng (((mag p) / 10 / 10) / 10 / 10)), vi (Int32.ofNat (n0 + (rep p).length)), vr a, vi (ng (((mag p) / 10 / 10) / 10 / 10)), vi (Int32.ofNat (((mag p) / 10 / 10) % 100)), vi (Int32.ofNat (n0 + 8)), vi 1]) (y := (Int32.ofNat (n0 + 8))) (D d2_44) rfl rfl (ofn_dec (n := n0 + 8) (by omega)) rfl ?_
      refine go_iload 49 (D d2_47) rfl rfl ?_
      refine go_old (fun O284 => ?_)
      refine go_getS 52 (wk G 136) ((st_DO G).ext O284.2) (D d2_49) rfl ?_
      refine go_iload 54 (D d2_52) rfl rfl ?_
      refine go_tabO 55 G (n := ((mag p) / 10 / 10) % 100) (v := (dch ((mag p) / 10 / 10))) (by omega) (by unfold dch; congr 1 <;> omega) (D d2_54) rfl ?_
      refine go_stT 56 (i := n0 + 8) (x' := (dch ((mag p) / 10 / 10))) rfl A283 p4 (by simp only [List.length_cons, List.length_nil] <;> omega) (by omega) p1 (dch_i8 _) (D d2_55) rfl (fun h285 W286 A287 => ?_)
      refine go_aload_n 57 (D d2_56) rfl rfl rfl ?_
      refine go_iinc 60 (ls' := #[vi (ng (((mag p) / 10 / 10) / 10 / 10)), vi (Int32.ofNat (n0 + (rep p).length)), vr a, vi (ng (((mag p) / 10 / 10) / 10 / 10)), vi (Int32.ofNat (((mag p) / 10 / 10) % 100)), vi (Int32.ofNat (n0 + 7)), vi 1]) (y := (Int32.ofNat (n0 + 7))) (D d2_57) rfl rfl (ofn_dec (n := n0 + 7) (by omega)) rfl ?_
      refine go_iload 62 (D d2_60) rfl rfl ?_
      refine go_old (fun O288 => ?_)
      refine go_getS 65 (wk G 221) ((st_DT G).ext O288.2) (D d2_62) rfl ?_
      refine go_iload 67 (D d2_65) rfl rfl ?_
      refine go_tabT 68 G (n := ((mag p) / 10 / 10) % 100) (v := (dch (((mag p) / 10 / 10) / 10))) (by omega) (by unfold dch; congr 1 <;> omega) (D d2_67) rfl ?_
      refine go_stT 69 (i := n0 + 7) (x' := (dch (((mag p) / 10 / 10) / 10))) rfl A287 p4 (by simp only [List.length_cons, List.length_nil] <;> omega) (by omega) p1 (dch_i8 _) (D d2_68) rfl (fun h289 W290 A291 => ?_)
      refine go_goto 22 (D d2_69) (by decide) rfl ?_
      refine go_iload_n 23 (D d2_22) rfl rfl ?_
      refine go_bipush 25 (v := (-100)) (D d2_23) rfl rfl ?_
      refine go_icF 28 (D d2_25) rfl (XT.ii_gt_f (fun z => absurd ((ng_le (k := 100) (by have := mag_le p; omega) (by decide) (by decide)).mp z) (by omega))) ?_
      refine go_iload_n 29 (D d2_28) rfl rfl ?_
      refine go_bipush 31 (v := 100) (D d2_29) rfl rfl ?_
      refine go_idiv 32 (z := (ng ((((mag p) / 10 / 10) / 10 / 10) / 10 / 10))) (D d2_31) rfl (by decide) (ng_div2 (by have := mag_le p; omega)) ?_
      refine go_istore_n 33 (ls' := #[vi (ng (((mag p) / 10 / 10) / 10 / 10)), vi (Int32.ofNat (n0 + (rep p).length)), vr a, vi (ng ((((mag p) / 10 / 10) / 10 / 10) / 10 / 10)), vi (Int32.ofNat (((mag p) / 10 / 10) % 100)), vi (Int32.ofNat (n0 + 7)), vi 1]) (D d2_32) rfl rfl ?_
      refine go_iload_n 34 (D d2_33) rfl rfl ?_
      refine go_bipush 36 (v := 100) (D d2_34) rfl rfl ?_
      refine go_imul 37 (z := ((ng ((((mag p) / 10 / 10) / 10 / 10) / 10 / 10)) * (100 : Int32))) (D d2_36) rfl rfl ?_
      refine go_iload_n 38 (D d2_37) rfl rfl ?_
      refine go_isub 39 (z := (Int32.ofNat ((((mag p) / 10 / 10) / 10 / 10) % 100))) (D d2_38) rfl (ng_rem2 (by have := mag_le p; omega)) ?_
      refine go_istore 41 (ls' := #[vi (ng (((mag p) / 10 / 10) / 10 / 10)), vi (Int32.ofNat (n0 + (rep p).length)), vr a, vi (ng ((((mag p) / 10 / 10) / 10 / 10) / 10 / 10)), vi (Int32.ofNat ((((mag p) / 10 / 10) / 10 / 10) % 100)), vi (Int32.ofNat (n0 + 7)), vi 1]) (D d2_39) rfl rfl ?_
      refine go_iload_n 42 (D d2_41) rfl rfl ?_
      refine go_istore_n 43 (ls' := #[vi (ng ((((mag p) / 10 / 10) / 10 / 10) / 10 / 10)), vi (Int32.ofNat (n0 + (rep p).length)), vr a, vi (ng ((((mag p) / 10 / 10) / 10 / 10) / 10 / 10)), vi (Int32.ofNat ((((mag p) / 10 / 10) / 10 / 10) % 100)), vi (Int32.ofNat (n0 + 7)), vi 1]) (D d2_42) rfl rfl ?_
      refine go_aload_n 44 (D d2_43) rfl rfl rfl ?_
      refine go_iinc 47 (ls' := #[vi (ng ((((mag p) / 10 / 10) / 10 / 10) / 10 / 10)), vi (Int32.ofNat (n0 + (rep p).length)), vr a, vi (ng ((((mag p) / 10 / 10) / 10 / 10) / 10 / 10)), vi (Int32.ofNat ((((mag p) / 10 / 10) / 10 / 10) % 100)), vi (Int32.ofNat (n0 + 6)), vi 1]) (y := (Int32.ofNat (n0 + 6))) (D d2_44) rfl rfl (ofn_dec (n := n0 + 6) (by omega)) rfl ?_
      refine go_iload 49 (D d2_47) rfl rfl ?_
      refine go_old (fun O292 => ?_)
      refine go_getS 52 (wk G 136) ((st_DO G).ext O292.2) (D d2_49) rfl ?_
      refine go_iload 54 (D d2_52) rfl rfl ?_
      refine go_tabO 55 G (n := (((mag p) / 10 / 10) / 10 / 10) % 100) (v := (dch (((mag p) / 10 / 10) / 10 / 10))) (by omega) (by unfold dch; congr 1 <;> omega) (D d2_54) rfl ?_
      refine go_stT 56 (i := n0 + 6) (x' := (dch (((mag p) / 10 / 10) / 10 / 10))) rfl A291 p4 (by simp only [List.length_cons, List.length_nil] <;> omega) (by omega) p1 (dch_i8 _) (D d2_55) rfl (fun h293 W294 A295 => ?_)
      refine go_aload_n 57 (D d2_56) rfl rfl rfl ?_
      refine go_iinc 60 (ls' := #[vi (ng ((((mag p) / 10 / 10) / 10 / 10) / 10 / 10)), vi (Int32.ofNat (n0 + (rep p).length)), vr a, vi (ng ((((mag p) / 10 / 10) / 10 / 10) / 10 / 10)), vi (Int32.ofNat ((((mag p) / 10 / 10) / 10 / 10) % 100)), vi (Int32.ofNat (n0 + 5)), vi 1]) (y := (Int32.ofNat (n0 + 5))) (D d2_57) rfl rfl (ofn_dec (n := n0 + 5) (by omega)) rfl ?_
      refine go_iload 62 (D d2_60) rfl rfl ?_
      refine go_old (fun O296 => ?_)
      refine go_getS 65 (wk G 221) ((st_DT G).ext O296.2) (D d2_62) rfl ?_
      refine go_iload 67 (D d2_65) rfl rfl ?_
      refine go_tabT 68 G (n := (((mag p) / 10 / 10) / 10 / 10) % 100) (v := (dch ((((mag p) / 10 / 10) / 10 / 10) / 10))) (by omega) (by unfold dch; congr 1 <;> omega) (D d2_67) rfl ?_
      refine go_stT 69 (i := n0 + 5) (x' := (dch ((((mag p) / 10 / 10) / 10 / 10) / 10))) rfl A295 p4 (by simp only [List.length_cons, List.length_nil] <;> omega) (by omega) p1 (dch_i8 _) (D d2_68) rfl (fun h297 W298 A299 => ?_)
      refine go_goto 22 (D d2_69) (by decide) rfl ?_
      refine go_iload_n 23 (D d2_22) rfl rfl ?_
      refine go_bipush 25 (v := (-100)) (D d2_23) rfl rfl ?_
      refine go_icF 28 (D d2_25) rfl (XT.ii_gt_f (fun z => absurd ((ng_le (k := 100) (by have := mag_le p; omega) (by decide) (by decide)).mp z) (by omega))) ?_
      refine go_iload_n 29 (D d2_28) rfl rfl ?_
      refine go_bipush 31 (v := 100) (D d2_29) rfl rfl ?_
      refine go_idiv 32 (z := (ng (((((mag p) / 10 / 10) / 10 / 10) / 10 / 10) / 10 / 10))) (D d2_31) rfl (by decide) (ng_div2 (by have := mag_le p; omega)) ?_
      refine go_istore_n 33 (ls' := #[vi (ng ((((mag p) / 10 / 10) / 10 / 10) / 10 / 10)), vi (Int32.ofNat (n0 + (rep p).length)), vr a, vi (ng (((((mag p) / 10 / 10) / 10 / 10) / 10 / 10) / 10 / 10)), vi (Int32.ofNat ((((mag p) / 10 / 10) / 10 / 10) % 100)), vi (Int32.ofNat (n0 + 5)), vi 1]) (D d2_32) rfl rfl ?_
      refine go_iload_n 34 (D d2_33) rfl rfl ?_
      refine go_bipush 36 (v := 100) (D d2_34) rfl rfl ?_
      refine go_imul 37 (z := ((ng (((((mag p) / 10 / 10) / 10 / 10) / 10 / 10) / 10 / 10)) * (100 : Int32))) (D d2_36) rfl rfl ?_
      refine go_iload_n 38 (D d2_37) rfl rfl ?_
      refine go_isub 39 (z := (Int32.ofNat (((((mag p) / 10 / 10) / 10 / 10) / 10 / 10) % 100))) (D d2_38) rfl (ng_rem2 (by have := mag_le p; omega)) ?_
      refine go_istore 41 (ls' := #[vi (ng ((((mag p) / 10 / 10) / 10 / 10) / 10 / 10)), vi (Int32.ofNat (n0 + (rep p).length)), vr a, vi (ng (((((mag p) / 10 / 10) / 10 / 10) / 10 / 10) / 10 / 10)), vi (Int32.ofNat (((((mag p) / 10 / 10) / 10 / 10) / 10 / 10) % 100)), vi (Int32.ofNat (n0 + 5)), vi 1]) (D d2_39) rfl rfl ?_
      refine go_iload_n 42 (D d2_41) rfl rfl ?_
      refine go_istore_n 43 (ls' := #[vi (ng (((((mag p) / 10 / 10) / 10 / 10) / 10 / 10) / 10 / 10)), vi (Int32.ofNat (n0 + (rep p).length)), vr a, vi (ng (((((mag p) / 10 / 10) / 10 / 10) / 10 / 10) / 10 / 10)), vi (Int32.ofNat (((((mag p) / 10 / 10) / 10 / 10) / 10 / 10) % 100)), vi (Int32.ofNat (n0 + 5)), vi 1]) (D d2_42) rfl rfl ?_
      refine go_aload_n 44 (D d2_43) rfl rfl rfl ?_
      refine go_iinc 47 (ls' := #[vi (ng (((((mag p) / 10 / 10) / 10 / 10) / 10 / 10) / 10 / 10)), vi (Int32.ofNat (n0 + (rep p).length)), vr a, vi (ng (((((mag p) / 10 / 10) / 10 / 10) / 10 / 10) / 10 / 10)), vi (Int32.ofNat (((((mag p) / 10 / 10) / 10 / 10) / 10 / 10) % 100)), vi (Int32.ofNat (n0 + 4)), vi 1]) (y := (Int32.ofNat (n0 + 4))) (D d2_44) rfl rfl (ofn_dec (n := n0 + 4) (by omega)) rfl ?_
      refine go_iload 49 (D d2_47) rfl rfl ?_
      refine go_old (fun O300 => ?_)
      refine go_getS 52 (wk G 136) ((st_DO G).ext O300.2) (D d2_49) rfl ?_
      refine go_iload 54 (D d2_52) rfl rfl ?_
      refine go_tabO 55 G (n := ((((mag p) / 10 / 10) / 10 / 10) / 10 / 10) % 100) (v := (dch ((((mag p) / 10 / 10) / 10 / 10) / 10 / 10))) (by omega) (by unfold dch; congr 1 <;> omega) (D d2_54) rfl ?_
      refine go_stT 56 (i := n0 + 4) (x' := (dch ((((mag p) / 10 / 10) / 10 / 10) / 10 / 10))) rfl A299 p4 (by simp only [List.length_cons, List.length_nil] <;> omega) (by omega) p1 (dch_i8 _) (D d2_55) rfl (fun h301 W302 A303 => ?_)
      refine go_aload_n 57 (D d2_56) rfl rfl rfl ?_
      refine go_iinc 60 (ls' := #[vi (ng (((((mag p) / 10 / 10) / 10 / 10) / 10 / 10) / 10 / 10)), vi (Int32.ofNat (n0 + (rep p).length)), vr a, vi (ng (((((mag p) / 10 / 10) / 10 / 10) / 10 / 10) / 10 / 10)), vi (Int32.ofNat (((((mag p) / 10 / 10) / 10 / 10) / 10 / 10) % 100)), vi (Int32.ofNat (n0 + 3)), vi 1]) (y := (Int32.ofNat (n0 + 3))) (D d2_57) rfl rfl (ofn_dec (n := n0 + 3) (by omega)) rfl ?_
      refine go_iload 62 (D d2_60) rfl rfl ?_
      refine go_old (fun O304 => ?_)
      refine go_getS 65 (wk G 221) ((st_DT G).ext O304.2) (D d2_62) rfl ?_
      refine go_iload 67 (D d2_65) rfl rfl ?_
      refine go_tabT 68 G (n := ((((mag p) / 10 / 10) / 10 / 10) / 10 / 10) % 100) (v := (dch (((((mag p) / 10 / 10) / 10 / 10) / 10 / 10) / 10))) (by omega) (by unfold dch; congr 1 <;> omega) (D d2_67) rfl ?_
      refine go_stT 69 (i := n0 + 3) (x' := (dch (((((mag p) / 10 / 10) / 10 / 10) / 10 / 10) / 10))) rfl A303 p4 (by simp only [List.length_cons, List.length_nil] <;> omega) (by omega) p1 (dch_i8 _) (D d2_68) rfl (fun h305 W306 A307 => ?_)
      refine go_goto 22 (D d2_69) (by decide) rfl ?_
      refine go_iload_n 23 (D d2_22) rfl rfl ?_
      refine go_bipush 25 (v := (-100)) (D d2_23) rfl rfl ?_
      refine go_icT 72 (D d2_25) (by decide) rfl (XT.ii_gt_t ((ng_le (k := 100) (by have := mag_le p; omega) (by decide) (by decide)).mpr (by omega))) ?_
      refine go_aload_n 73 (D d2_72) rfl rfl rfl ?_
      refine go_iinc 76 (ls' := #[vi (ng (((((mag p) / 10 / 10) / 10 / 10) / 10 / 10) / 10 / 10)), vi (Int32.ofNat (n0 + (rep p).length)), vr a, vi (ng (((((mag p) / 10 / 10) / 10 / 10) / 10 / 10) / 10 / 10)), vi (Int32.ofNat (((((mag p) / 10 / 10) / 10 / 10) / 10 / 10) % 100)), vi (Int32.ofNat (n0 + 2)), vi 1]) (y := (Int32.ofNat (n0 + 2))) (D d2_73) rfl rfl (ofn_dec (n := n0 + 2) (by omega)) rfl ?_
      refine go_iload 78 (D d2_76) rfl rfl ?_
      refine go_old (fun O308 => ?_)
      refine go_getS 81 (wk G 136) ((st_DO G).ext O308.2) (D d2_78) rfl ?_
      refine go_iload_n 82 (D d2_81) rfl rfl ?_
      refine go_ineg 83 (z := (Int32.ofNat (((((mag p) / 10 / 10) / 10 / 10) / 10 / 10) / 10 / 10))) (D d2_82) rfl (ng_ng (by omega)) ?_
      refine go_tabO 84 G (n := (((((mag p) / 10 / 10) / 10 / 10) / 10 / 10) / 10 / 10)) (v := (dch (((((mag p) / 10 / 10) / 10 / 10) / 10 / 10) / 10 / 10))) (by omega) (by unfold dch; congr 1 <;> omega) (D d2_83) rfl ?_
      refine go_stT 85 (i := n0 + 2) (x' := (dch (((((mag p) / 10 / 10) / 10 / 10) / 10 / 10) / 10 / 10))) rfl A307 p4 (by simp only [List.length_cons, List.length_nil] <;> omega) (by omega) p1 (dch_i8 _) (D d2_84) rfl (fun h309 W310 A311 => ?_)
      refine go_iload_n 86 (D d2_85) rfl rfl ?_
      refine go_bipush 88 (v := (-9)) (D d2_86) rfl rfl ?_
      refine go_icF 91 (D d2_88) rfl (XT.ii_ge_f ((ng_lt (k := 9) (by have := mag_le p; omega) (by decide) (by decide)).mpr (by omega))) ?_
      refine go_aload_n 92 (D d2_91) rfl rfl rfl ?_
      refine go_iinc 95 (ls' := #[vi (ng (((((mag p) / 10 / 10) / 10 / 10) / 10 / 10) / 10 / 10)), vi (Int32.ofNat (n0 + (rep p).length)), vr a, vi (ng (((((mag p) / 10 / 10) / 10 / 10) / 10 / 10) / 10 / 10)), vi (Int32.ofNat (((((mag p) / 10 / 10) / 10 / 10) / 10 / 10) % 100)), vi (Int32.ofNat (n0 + 1)), vi 1]) (y := (Int32.ofNat (n0 + 1))) (D d2_92) rfl rfl (ofn_dec (n := n0 + 1) (by omega)) rfl ?_
      refine go_iload 97 (D d2_95) rfl rfl ?_
      refine go_old (fun O312 => ?_)
      refine go_getS 100 (wk G 221) ((st_DT G).ext O312.2) (D d2_97) rfl ?_
      refine go_iload_n 101 (D d2_100) rfl rfl ?_
      refine go_ineg 102 (z := (Int32.ofNat (((((mag p) / 10 / 10) / 10 / 10) / 10 / 10) / 10 / 10))) (D d2_101) rfl (ng_ng (by omega)) ?_
      refine go_tabT 103 G (n := (((((mag p) / 10 / 10) / 10 / 10) / 10 / 10) / 10 / 10)) (v := (dch ((((((mag p) / 10 / 10) / 10 / 10) / 10 / 10) / 10 / 10) / 10))) (by omega) (by unfold dch; congr 1 <;> omega) (D d2_102) rfl ?_
      refine go_stT 104 (i := n0 + 1) (x' := (dch ((((((mag p) / 10 / 10) / 10 / 10) / 10 / 10) / 10 / 10) / 10))) rfl A311 p4 (by simp only [List.length_cons, List.length_nil] <;> omega) (by omega) p1 (dch_i8 _) (D d2_103) rfl (fun h313 W314 A315 => ?_)
      refine go_iload 106 (D d2_104) rfl rfl ?_
      refine go_ifF 109 (D d2_106) rfl (by decide) ?_
      refine go_aload_n 110 (D d2_109) rfl rfl rfl ?_
      refine go_iinc 113 (ls' := #[vi (ng (((((mag p) / 10 / 10) / 10 / 10) / 10 / 10) / 10 / 10)), vi (Int32.ofNat (n0 + (rep p).length)), vr a, vi (ng (((((mag p) / 10 / 10) / 10 / 10) / 10 / 10) / 10 / 10)), vi (Int32.ofNat (((((mag p) / 10 / 10) / 10 / 10) / 10 / 10) % 100)), vi (Int32.ofNat (n0 + 0)), vi 1]) (y := (Int32.ofNat (n0 + 0))) (D d2_110) rfl rfl (ofn_dec (n := n0 + 0) (by omega)) rfl ?_
      refine go_iload 115 (D d2_113) rfl rfl ?_
      refine go_bipush 117 (v := 45) (D d2_115) rfl rfl ?_
      refine go_stT 118 (i := n0 + 0) (x' := (45 : Int32)) rfl A315 p4 (by simp only [List.length_cons, List.length_nil] <;> omega) (by omega) p1 (by decide) (D d2_117) rfl (fun h316 W317 A318 => ?_)
      refine go_iload 120 (D d2_118) rfl rfl ?_
      have K319 : Keep h0 h277 [a] := ((Keep.refl h0 [a]).wr W278 (Or.inl (by simp)))
      have K320 : Keep h0 h281 [a] := (K319.wr W282 (Or.inl (by simp)))
      have K321 : Keep h0 h285 [a] := (K320.wr W286 (Or.inl (by simp)))
      have K322 : Keep h0 h289 [a] := (K321.wr W290 (Or.inl (by simp)))
      have K323 : Keep h0 h293 [a] := (K322.wr W294 (Or.inl (by simp)))
      have K324 : Keep h0 h297 [a] := (K323.wr W298 (Or.inl (by simp)))
      have K325 : Keep h0 h301 [a] := (K324.wr W302 (Or.inl (by simp)))
      have K326 : Keep h0 h305 [a] := (K325.wr W306 (Or.inl (by simp)))
      have K327 : Keep h0 h309 [a] := (K326.wr W310 (Or.inl (by simp)))
      have K328 : Keep h0 h313 [a] := (K327.wr W314 (Or.inl (by simp)))
      have K329 : Keep h0 h316 [a] := (K328.wr W317 (Or.inl (by simp)))
      refine go_ireturn hret hlk rfl (by simp) (D d2_120) (by decide) (by decide) ⟨_, rfl, ⟨(Int32.ofNat (n0 + 0)), rfl, ((show tk L (n0 + 0) [(.int 45), (.int (dch ((((((mag p) / 10 / 10) / 10 / 10) / 10 / 10) / 10 / 10) / 10))), (.int (dch (((((mag p) / 10 / 10) / 10 / 10) / 10 / 10) / 10 / 10))), (.int (dch (((((mag p) / 10 / 10) / 10 / 10) / 10 / 10) / 10))), (.int (dch ((((mag p) / 10 / 10) / 10 / 10) / 10 / 10))), (.int (dch ((((mag p) / 10 / 10) / 10 / 10) / 10))), (.int (dch (((mag p) / 10 / 10) / 10 / 10))), (.int (dch (((mag p) / 10 / 10) / 10))), (.int (dch ((mag p) / 10 / 10))), (.int (dch ((mag p) / 10))), (.int (dch (mag p)))] (n0 + 11) = tk L n0 ((rep p).map Value.int) (n0 + (rep p).length) from by rw [n275, rep_n cz1 n2]; rfl) ▸ A318)⟩⟩ K329
  · refine go_ifT 11 (D d2_4) (by decide) rfl (XT.i0_ge_t cz1) ?_
    refine go_iconst 12 (v := 0) (D d2_11) rfl rfl ?_
    refine go_istore 14 (ls' := #[vi p, vi (Int32.ofNat (n0 + (rep p).length)), vr a, un, un, vi (Int32.ofNat (n0 + (rep p).length)), vi 0]) (D d2_12) rfl rfl ?_
    refine go_iload 16 (D d2_14) rfl rfl ?_
    refine go_ifF 19 (D d2_16) rfl (by decide) ?_
    refine go_iload_n 20 (D d2_19) rfl rfl ?_
    refine go_ineg 21 (z := (-p)) (D d2_20) rfl rfl ?_
    refine go_istore_n 22 (ls' := #[vi (-p), vi (Int32.ofNat (n0 + (rep p).length)), vr a, un, un, vi (Int32.ofNat (n0 + (rep p).length)), vi 0]) (D d2_21) rfl rfl ?_
    rcases ndg_c (mag p) with ⟨n330, n332⟩ | ⟨n330, n331, n332⟩ | ⟨n330, n331, n332⟩ | ⟨n330, n331, n332⟩ | ⟨n330, n331, n332⟩ | ⟨n330, n331, n332⟩ | ⟨n330, n331, n332⟩ | ⟨n330, n331, n332⟩ | ⟨n330, n331, n332⟩ | ⟨n330, n331⟩
    · have n333 : (rep p).length = 1 := rl_p cz1 n330 rfl
      refine go_eqf (g' := mkF m_ 22 #[.val (.int (ng (mag p))), .val (.int (Int32.ofNat (n0 + (rep p).length))), .val (.ref a), .unset, .unset, .val (.int (Int32.ofNat (n0 + 1))), .val (.int 0)] []) (by rw [← ng_pos cz1, n333]) ?_
      have A334 : Arv Z h0 a k .byte (16 : Int32) (tk L (n0 + 1) [] (n0 + 1)) (.int 0) := by rw [tk_start]; exact p5
      refine go_iload_n 23 (D d2_22) rfl rfl ?_
      refine go_bipush 25 (v := (-100)) (D d2_23) rfl rfl ?_
      refine go_icT 72 (D d2_25) (by decide) rfl (XT.ii_gt_t ((ng_le (k := 100) (by have := mag_le p; omega) (by decide) (by decide)).mpr (by omega))) ?_
      refine go_aload_n 73 (D d2_72) rfl rfl rfl ?_
      refine go_iinc 76 (ls' := #[vi (ng (mag p)), vi (Int32.ofNat (n0 + (rep p).length)), vr a, un, un, vi (Int32.ofNat (n0 + 0)), vi 0]) (y := (Int32.ofNat (n0 + 0))) (D d2_73) rfl rfl (ofn_dec (n := n0 + 0) (by omega)) rfl ?_
      refine go_iload 78 (D d2_76) rfl rfl ?_
      refine go_getS 81 (wk G 136) ((st_DO G).ext O0.2) (D d2_78) rfl ?_
      refine go_iload_n 82 (D d2_81) rfl rfl ?_
      refine go_ineg 83 (z := (Int32.ofNat (mag p))) (D d2_82) rfl (ng_ng (by omega)) ?_
      refine go_tabO 84 G (n := (mag p)) (v := (dch (mag p))) (by omega) (by unfold dch; congr 1 <;> omega) (D d2_83) rfl ?_
      refine go_stT 85 (i := n0 + 0) (x' := (dch (mag p))) rfl A334 p4 (by simp only [List.length_cons, List.length_nil] <;> omega) (by omega) p1 (dch_i8 _) (D d2_84) rfl (fun h335 W336 A337 => ?_)
      refine go_iload_n 86 (D d2_85) rfl rfl ?_
      refine go_bipush 88 (v := (-9)) (D d2_86) rfl rfl ?_
      refine go_icT 104 (D d2_88) (by decide) rfl (XT.ii_ge_t (fun z => absurd ((ng_lt (k := 9) (by have := mag_le p; omega) (by decide) (by decide)).mp z) (by omega))) ?_
      refine go_iload 106 (D d2_104) rfl rfl ?_
      refine go_ifT 118 (D d2_106) (by decide) rfl (by decide) ?_
      refine go_iload 120 (D d2_118) rfl rfl ?_
      have K338 : Keep h0 h335 [a] := ((Keep.refl h0 [a]).wr W336 (Or.inl (by simp)))
      refine go_ireturn hret hlk rfl (by simp) (D d2_120) (by decide) (by decide) ⟨_, rfl, ⟨(Int32.ofNat (n0 + 0)), rfl, ((show tk L (n0 + 0) [(.int (dch (mag p)))] (n0 + 1) = tk L n0 ((rep p).map Value.int) (n0 + (rep p).length) from by rw [n333, rep_p cz1 n330]; rfl) ▸ A337)⟩⟩ K338
    · have n339 : (rep p).length = 2 := rl_p cz1 n330 rfl
      refine go_eqf (g' := mkF m_ 22 #[.val (.int (ng (mag p))), .val (.int (Int32.ofNat (n0 + (rep p).length))), .val (.ref a), .unset, .unset, .val (.int (Int32.ofNat (n0 + 2))), .val (.int 0)] []) (by rw [← ng_pos cz1, n339]) ?_
      have A340 : Arv Z h0 a k .byte (16 : Int32) (tk L (n0 + 2) [] (n0 + 2)) (.int 0) := by rw [tk_start]; exact p5
      refine go_iload_n 23 (D d2_22) rfl rfl ?_
      refine go_bipush 25 (v := (-100)) (D d2_23) rfl rfl ?_
      refine go_icT 72 (D d2_25) (by decide) rfl (XT.ii_gt_t ((ng_le (k := 100) (by have := mag_le p; omega) (by decide) (by decide)).mpr (by omega))) ?_
      refine go_aload_n 73 (D d2_72) rfl rfl rfl ?_
      refine go_iinc 76 (ls' := #[vi (ng (mag p)), vi (Int32.ofNat (n0 + (rep p).length)), vr a, un, un, vi (Int32.ofNat (n0 + 1)), vi 0]) (y := (Int32.ofNat (n0 + 1))) (D d2_73) rfl rfl (ofn_dec (n := n0 + 1) (by omega)) rfl ?_
      refine go_iload 78 (D d2_76) rfl rfl ?_
      refine go_getS 81 (wk G 136) ((st_DO G).ext O0.2) (D d2_78) rfl ?_
      refine go_iload_n 82 (D d2_81) rfl rfl ?_
      refine go_ineg 83 (z := (Int32.ofNat (mag p))) (D d2_82) rfl (ng_ng (by omega)) ?_
      refine go_tabO 84 G (n := (mag p)) (v := (dch (mag p))) (by omega) (by unfold dch; congr 1 <;> omega) (D d2_83) rfl ?_
      refine go_stT 85 (i := n0 + 1) (x' := (dch (mag p))) rfl A340 p4 (by simp only [List.length_cons, List.length_nil] <;> omega) (by omega) p1 (dch_i8 _) (D d2_84) rfl (fun h341 W342 A343 => ?_)
      refine go_iload_n 86 (D d2_85) rfl rfl ?_
      refine go_bipush 88 (v := (-9)) (D d2_86) rfl rfl ?_
      refine go_icF 91 (D d2_88) rfl (XT.ii_ge_f ((ng_lt (k := 9) (by have := mag_le p; omega) (by decide) (by decide)).mpr (by omega))) ?_
      refine go_aload_n 92 (D d2_91) rfl rfl rfl ?_
      refine go_iinc 95 (ls' := #[vi (ng (mag p)), vi (Int32.ofNat (n0 + (rep p).length)), vr a, un, un, vi (Int32.ofNat (n0 + 0)), vi 0]) (y := (Int32.ofNat (n0 + 0))) (D d2_92) rfl rfl (ofn_dec (n := n0 + 0) (by omega)) rfl ?_
      refine go_iload 97 (D d2_95) rfl rfl ?_
      refine go_old (fun O344 => ?_)
      refine go_getS 100 (wk G 221) ((st_DT G).ext O344.2) (D d2_97) rfl ?_
      refine go_iload_n 101 (D d2_100) rfl rfl ?_
      refine go_ineg 102 (z := (Int32.ofNat (mag p))) (D d2_101) rfl (ng_ng (by omega)) ?_
      refine go_tabT 103 G (n := (mag p)) (v := (dch ((mag p) / 10))) (by omega) (by unfold dch; congr 1 <;> omega) (D d2_102) rfl ?_
      refine go_stT 104 (i := n0 + 0) (x' := (dch ((mag p) / 10))) rfl A343 p4 (by simp only [List.length_cons, List.length_nil] <;> omega) (by omega) p1 (dch_i8 _) (D d2_103) rfl (fun h345 W346 A347 => ?_)
      refine go_iload 106 (D d2_104) rfl rfl ?_
      refine go_ifT 118 (D d2_106) (by decide) rfl (by decide) ?_
      refine go_iload 120 (D d2_118) rfl rfl ?_
      have K348 : Keep h0 h341 [a] := ((Keep.refl h0 [a]).wr W342 (Or.inl (by simp)))
      have K349 : Keep h0 h345 [a] := (K348.wr W346 (Or.inl (by simp)))
      refine go_ireturn hret hlk rfl (by simp) (D d2_120) (by decide) (by decide) ⟨_, rfl, ⟨(Int32.ofNat (n0 + 0)), rfl, ((show tk L (n0 + 0) [(.int (dch ((mag p) / 10))), (.int (dch (mag p)))] (n0 + 2) = tk L n0 ((rep p).map Value.int) (n0 + (rep p).length) from by rw [n339, rep_p cz1 n330]; rfl) ▸ A347)⟩⟩ K349
    · have n350 : (rep p).length = 3 := rl_p cz1 n330 rfl
      refine go_eqf (g' := mkF m_ 22 #[.val (.int (ng (mag p))), .val (.int (Int32.ofNat (n0 + (rep p).length))), .val (.ref a), .unset, .unset, .val (.int (Int32.ofNat (n0 + 3))), .val (.int 0)] []) (by rw [← ng_pos cz1, n350]) ?_
      have A351 : Arv Z h0 a k .byte (16 : Int32) (tk L (n0 + 3) [] (n0 + 3)) (.int 0) := by rw [tk_start]; exact p5
      refine go_iload_n 23 (D d2_22) rfl rfl ?_
      refine go_bipush 25 (v := (-100)) (D d2_23) rfl rfl ?_
      refine go_icF 28 (D d2_25) rfl (XT.ii_gt_f (fun z => absurd ((ng_le (k := 100) (by have := mag_le p; omega) (by decide) (by decide)).mp z) (by omega))) ?_
      refine go_iload_n 29 (D d2_28) rfl rfl ?_
      refine go_bipush 31 (v := 100) (D d2_29) rfl rfl ?_
      refine go_idiv 32 (z := (ng ((mag p) / 10 / 10))) (D d2_31) rfl (by decide) (ng_div2 (by have := mag_le p; omega)) ?_
      refine go_istore_n 33 (ls' := #[vi (ng (mag p)), vi (Int32.ofNat (n0 + (rep p).length)), vr a, vi (ng ((mag p) / 10 / 10)), un, vi (Int32.ofNat (n0 + 3)), vi 0]) (D d2_32) rfl rfl ?_
      refine go_iload_n 34 (D d2_33) rfl rfl ?_
      refine go_bipush 36 (v := 100) (D d2_34) rfl rfl ?_
      refine go_imul 37 (z := ((ng ((mag p) / 10 / 10)) * (100 : Int32))) (D d2_36) rfl rfl ?_
      refine go_iload_n 38 (D d2_37) rfl rfl ?_
      refine go_isub 39 (z := (Int32.ofNat ((mag p) % 100))) (D d2_38) rfl (ng_rem2 (by have := mag_le p; omega)) ?_
      refine go_istore 41 (ls' := #[vi (ng (mag p)), vi (Int32.ofNat (n0 + (rep p).length)), vr a, vi (ng ((mag p) / 10 / 10)), vi (Int32.ofNat ((mag p) % 100)), vi (Int32.ofNat (n0 + 3)), vi 0]) (D d2_39) rfl rfl ?_
      refine go_iload_n 42 (D d2_41) rfl rfl ?_
      refine go_istore_n 43 (ls' := #[vi (ng ((mag p) / 10 / 10)), vi (Int32.ofNat (n0 + (rep p).length)), vr a, vi (ng ((mag p) / 10 / 10)), vi (Int32.ofNat ((mag p) % 100)), vi (Int32.ofNat (n0 + 3)), vi 0]) (D d2_42) rfl rfl ?_
      refine go_aload_n 44 (D d2_43) rfl rfl rfl ?_
      refine go_iinc 47 (ls' := #[vi (ng ((mag p) / 10 / 10)), vi (Int32.ofNat (n0 + (rep p).length)), vr a, vi (ng ((mag p) / 10 / 10)), vi (Int32.ofNat ((mag p) % 100)), vi (Int32.ofNat (n0 + 2)), vi 0]) (y := (Int32.ofNat (n0 + 2))) (D d2_44) rfl rfl (ofn_dec (n := n0 + 2) (by omega)) rfl ?_
      refine go_iload 49 (D d2_47) rfl rfl ?_
      refine go_getS 52 (wk G 136) ((st_DO G).ext O0.2) (D d2_49) rfl ?_
      refine go_iload 54 (D d2_52) rfl rfl ?_
      refine go_tabO 55 G (n := (mag p) % 100) (v := (dch (mag p))) (by omega) (by unfold dch; congr 1 <;> omega) (D d2_54) rfl ?_
      refine go_stT 56 (i := n0 + 2) (x' := (dch (mag p))) rfl A351 p4 (by simp only [List.length_cons, List.length_nil] <;> omega) (by omega) p1 (dch_i8 _) (D d2_55) rfl (fun h352 W353 A354 => ?_)
      refine go_aload_n 57 (D d2_56) rfl rfl rfl ?_
      refine go_iinc 60 (ls' := #[vi (ng ((mag p) / 10 / 10)), vi (Int32.ofNat (n0 + (rep p).length)), vr a, vi (ng ((mag p) / 10 / 10)), vi (Int32.ofNat ((mag p) % 100)), vi (Int32.ofNat (n0 + 1)), vi 0]) (y := (Int32.ofNat (n0 + 1))) (D d2_57) rfl rfl (ofn_dec (n := n0 + 1) (by omega)) rfl ?_
      refine go_iload 62 (D d2_60) rfl rfl ?_
      refine go_old (fun O355 => ?_)
      refine go_getS 65 (wk G 221) ((st_DT G).ext O355.2) (D d2_62) rfl ?_
      refine go_iload 67 (D d2_65) rfl rfl ?_
      refine go_tabT 68 G (n := (mag p) % 100) (v := (dch ((mag p) / 10))) (by omega) (by unfold dch; congr 1 <;> omega) (D d2_67) rfl ?_
      refine go_stT 69 (i := n0 + 1) (x' := (dch ((mag p) / 10))) rfl A354 p4 (by simp only [List.length_cons, List.length_nil] <;> omega) (by omega) p1 (dch_i8 _) (D d2_68) rfl (fun h356 W357 A358 => ?_)
      refine go_goto 22 (D d2_69) (by decide) rfl ?_
      refine go_iload_n 23 (D d2_22) rfl rfl ?_
      refine go_bipush 25 (v := (-100)) (D d2_23) rfl rfl ?_
      refine go_icT 72 (D d2_25) (by decide) rfl (XT.ii_gt_t ((ng_le (k := 100) (by have := mag_le p; omega) (by decide) (by decide)).mpr (by omega))) ?_
      refine go_aload_n 73 (D d2_72) rfl rfl rfl ?_
      refine go_iinc 76 (ls' := #[vi (ng ((mag p) / 10 / 10)), vi (Int32.ofNat (n0 + (rep p).length)), vr a, vi (ng ((mag p) / 10 / 10)), vi (Int32.ofNat ((mag p) % 100)), vi (Int32.ofNat (n0 + 0)), vi 0]) (y := (Int32.ofNat (n0 + 0))) (D d2_73) rfl rfl (ofn_dec (n := n0 + 0) (by omega)) rfl ?_
      refine go_iload 78 (D d2_76) rfl rfl ?_
      refine go_old (fun O359 => ?_)
      refine go_getS 81 (wk G 136) ((st_DO G).ext O359.2) (D d2_78) rfl ?_
      refine go_iload_n 82 (D d2_81) rfl rfl ?_
      refine go_ineg 83 (z := (Int32.ofNat ((mag p) / 10 / 10))) (D d2_82) rfl (ng_ng (by omega)) ?_
      refine go_tabO 84 G (n := ((mag p) / 10 / 10)) (v := (dch ((mag p) / 10 / 10))) (by omega) (by unfold dch; congr 1 <;> omega) (D d2_83) rfl ?_
      refine go_stT 85 (i := n0 + 0) (x' := (dch ((mag p) / 10 / 10))) rfl A358 p4 (by simp only [List.length_cons, List.length_nil] <;> omega) (by omega) p1 (dch_i8 _) (D d2_84) rfl (fun h360 W361 A362 => ?_)
      refine go_iload_n 86 (D d2_85) rfl rfl ?_
      refine go_bipush 88 (v := (-9)) (D d2_86) rfl rfl ?_
      refine go_icT 104 (D d2_88) (by decide) rfl (XT.ii_ge_t (fun z => absurd ((ng_lt (k := 9) (by have := mag_le p; omega) (by decide) (by decide)).mp z) (by omega))) ?_
      refine go_iload 106 (D d2_104) rfl rfl ?_
      refine go_ifT 118 (D d2_106) (by decide) rfl (by decide) ?_
      refine go_iload 120 (D d2_118) rfl rfl ?_
      have K363 : Keep h0 h352 [a] := ((Keep.refl h0 [a]).wr W353 (Or.inl (by simp)))
      have K364 : Keep h0 h356 [a] := (K363.wr W357 (Or.inl (by simp)))
      have K365 : Keep h0 h360 [a] := (K364.wr W361 (Or.inl (by simp)))
      refine go_ireturn hret hlk rfl (by simp) (D d2_120) (by decide) (by decide) ⟨_, rfl, ⟨(Int32.ofNat (n0 + 0)), rfl, ((show tk L (n0 + 0) [(.int (dch ((mag p) / 10 / 10))), (.int (dch ((mag p) / 10))), (.int (dch (mag p)))] (n0 + 3) = tk L n0 ((rep p).map Value.int) (n0 + (rep p).length) from by rw [n350, rep_p cz1 n330]; rfl) ▸ A362)⟩⟩ K365
    · have n366 : (rep p).length = 4 := rl_p cz1 n330 rfl
      refine go_eqf (g' := mkF m_ 22 #[.val (.int (ng (mag p))), .val (.int (Int32.ofNat (n0 + (rep p).length))), .val (.ref a), .unset, .unset, .val (.int (Int32.ofNat (n0 + 4))), .val (.int 0)] []) (by rw [← ng_pos cz1, n366]) ?_
      have A367 : Arv Z h0 a k .byte (16 : Int32) (tk L (n0 + 4) [] (n0 + 4)) (.int 0) := by rw [tk_start]; exact p5
      refine go_iload_n 23 (D d2_22) rfl rfl ?_
      refine go_bipush 25 (v := (-100)) (D d2_23) rfl rfl ?_
      refine go_icF 28 (D d2_25) rfl (XT.ii_gt_f (fun z => absurd ((ng_le (k := 100) (by have := mag_le p; omega) (by decide) (by decide)).mp z) (by omega))) ?_
      refine go_iload_n 29 (D d2_28) rfl rfl ?_
      refine go_bipush 31 (v := 100) (D d2_29) rfl rfl ?_
      refine go_idiv 32 (z := (ng ((mag p) / 10 / 10))) (D d2_31) rfl (by decide) (ng_div2 (by have := mag_le p; omega)) ?_
      refine go_istore_n 33 (ls' := #[vi (ng (mag p)), vi (Int32.ofNat (n0 + (rep p).length)), vr a, vi (ng ((mag p) / 10 / 10)), un, vi (Int32.ofNat (n0 + 4)), vi 0]) (D d2_32) rfl rfl ?_
      refine go_iload_n 34 (D d2_33) rfl rfl ?_
      refine go_bipush 36 (v := 100) (D d2_34) rfl rfl ?_
      refine go_imul 37 (z := ((ng ((mag p) / 10 / 10)) * (100 : Int32))) (D d2_36) rfl rfl ?_
      refine go_iload_n 38 (D d2_37) rfl rfl ?_
      refine go_isub 39 (z := (Int32.ofNat ((mag p) % 100))) (D d2_38) rfl (ng_rem2 (by have := mag_le p; omega)) ?_
      refine go_istore 41 (ls' := #[vi (ng (mag p)), vi (Int32.ofNat (n0 + (rep p).length)), vr a, vi (ng ((mag p) / 10 / 10)), vi (Int32.ofNat ((mag p) % 100)), vi (Int32.ofNat (n0 + 4)), vi 0]) (D d2_39) rfl rfl ?_
      refine go_iload_n 42 (D d2_41) rfl rfl ?_
      refine go_istore_n 43 (ls' := #[vi (ng ((mag p) / 10 / 10)), vi (Int32.ofNat (n0 + (rep p).length)), vr a, vi (ng ((mag p) / 10 / 10)), vi (Int32.ofNat ((mag p) % 100)), vi (Int32.ofNat (n0 + 4)), vi 0]) (D d2_42) rfl rfl ?_
      refine go_aload_n 44 (D d2_43) rfl rfl rfl ?_
      refine go_iinc 47 (ls' := #[vi (ng ((mag p) / 10 / 10)), vi (Int32.ofNat (n0 + (rep p).length)), vr a, vi (ng ((mag p) / 10 / 10)), vi (Int32.ofNat ((mag p) % 100)), vi (Int32.ofNat (n0 + 3)), vi 0]) (y := (Int32.ofNat (n0 + 3))) (D d2_44) rfl rfl (ofn_dec (n := n0 + 3) (by omega)) rfl ?_
      refine go_iload 49 (D d2_47) rfl rfl ?_
      refine go_getS 52 (wk G 136) ((st_DO G).ext O0.2) (D d2_49) rfl ?_
      refine go_iload 54 (D d2_52) rfl rfl ?_
      refine go_tabO 55 G (n := (mag p) % 100) (v := (dch (mag p))) (by omega) (by unfold dch; congr 1 <;> omega) (D d2_54) rfl ?_
      refine go_stT 56 (i := n0 + 3) (x' := (dch (mag p))) rfl A367 p4 (by simp only [List.length_cons, List.length_nil] <;> omega) (by omega) p1 (dch_i8 _) (D d2_55) rfl (fun h368 W369 A370 => ?_)
      refine go_aload_n 57 (D d2_56) rfl rfl rfl ?_
      refine go_iinc 60 (ls' := #[vi (ng ((mag p) / 10 / 10)), vi (Int32.ofNat (n0 + (rep p).length)), vr a, vi (ng ((mag p) / 10 / 10)), vi (Int32.ofNat ((mag p) % 100)), vi (Int32.ofNat (n0 + 2)), vi 0]) (y := (Int32.ofNat (n0 + 2))) (D d2_57) rfl rfl (ofn_dec (n := n0 + 2) (by omega)) rfl ?_
      refine go_iload 62 (D d2_60) rfl rfl ?_
      refine go_old (fun O371 => ?_)
      refine go_getS 65 (wk G 221) ((st_DT G).ext O371.2) (D d2_62) rfl ?_
      refine go_iload 67 (D d2_65) rfl rfl ?_
      refine go_tabT 68 G (n := (mag p) % 100) (v := (dch ((mag p) / 10))) (by omega) (by unfold dch; congr 1 <;> omega) (D d2_67) rfl ?_
      refine go_stT 69 (i := n0 + 2) (x' := (dch ((mag p) / 10))) rfl A370 p4 (by simp only [List.length_cons, List.length_nil] <;> omega) (by omega) p1 (dch_i8 _) (D d2_68) rfl (fun h372 W373 A374 => ?_)
      refine go_goto 22 (D d2_69) (by decide) rfl ?_
      refine go_iload_n 23 (D d2_22) rfl rfl ?_
      refine go_bipush 25 (v := (-100)) (D d2_23) rfl rfl ?_
      refine go_icT 72 (D d2_25) (by decide) rfl (XT.ii_gt_t ((ng_le (k := 100) (by have := mag_le p; omega) (by decide) (by decide)).mpr (by omega))) ?_
      refine go_aload_n 73 (D d2_72) rfl rfl rfl ?_
      refine go_iinc 76 (ls' := #[vi (ng ((mag p) / 10 / 10)), vi (Int32.ofNat (n0 + (rep p).length)), vr a, vi (ng ((mag p) / 10 / 10)), vi (Int32.ofNat ((mag p) % 100)), vi (Int32.ofNat (n0 + 1)), vi 0]) (y := (Int32.ofNat (n0 + 1))) (D d2_73) rfl rfl (ofn_dec (n := n0 + 1) (by omega)) rfl ?_
      refine go_iload 78 (D d2_76) rfl rfl ?_
      refine go_old (fun O375 => ?_)
      refine go_getS 81 (wk G 136) ((st_DO G).ext O375.2) (D d2_78) rfl ?_
      refine go_iload_n 82 (D d2_81) rfl rfl ?_
      refine go_ineg 83 (z := (Int32.ofNat ((mag p) / 10 / 10))) (D d2_82) rfl (ng_ng (by omega)) ?_
      refine go_tabO 84 G (n := ((mag p) / 10 / 10)) (v := (dch ((mag p) / 10 / 10))) (by omega) (by unfold dch; congr 1 <;> omega) (D d2_83) rfl ?_
      refine go_stT 85 (i := n0 + 1) (x' := (dch ((mag p) / 10 / 10))) rfl A374 p4 (by simp only [List.length_cons, List.length_nil] <;> omega) (by omega) p1 (dch_i8 _) (D d2_84) rfl (fun h376 W377 A378 => ?_)
      refine go_iload_n 86 (D d2_85) rfl rfl ?_
      refine go_bipush 88 (v := (-9)) (D d2_86) rfl rfl ?_
      refine go_icF 91 (D d2_88) rfl (XT.ii_ge_f ((ng_lt (k := 9) (by have := mag_le p; omega) (by decide) (by decide)).mpr (by omega))) ?_
      refine go_aload_n 92 (D d2_91) rfl rfl rfl ?_
      refine go_iinc 95 (ls' := #[vi (ng ((mag p) / 10 / 10)), vi (Int32.ofNat (n0 + (rep p).length)), vr a, vi (ng ((mag p) / 10 / 10)), vi (Int32.ofNat ((mag p) % 100)), vi (Int32.ofNat (n0 + 0)), vi 0]) (y := (Int32.ofNat (n0 + 0))) (D d2_92) rfl rfl (ofn_dec (n := n0 + 0) (by omega)) rfl ?_
      refine go_iload 97 (D d2_95) rfl rfl ?_
      refine go_old (fun O379 => ?_)
      refine go_getS 100 (wk G 221) ((st_DT G).ext O379.2) (D d2_97) rfl ?_
      refine go_iload_n 101 (D d2_100) rfl rfl ?_
      refine go_ineg 102 (z := (Int32.ofNat ((mag p) / 10 / 10))) (D d2_101) rfl (ng_ng (by omega)) ?_
      refine go_tabT 103 G (n := ((mag p) / 10 / 10)) (v := (dch (((mag p) / 10 / 10) / 10))) (by omega) (by unfold dch; congr 1 <;> omega) (D d2_102) rfl ?_
      refine go_stT 104 (i := n0 + 0) (x' := (dch (((mag p) / 10 / 10) / 10))) rfl A378 p4 (by simp only [List.length_cons, List.length_nil] <;> omega) (by omega) p1 (dch_i8 _) (D d2_103) rfl (fun h380 W381 A382 => ?_)
      refine go_iload 106 (D d2_104) rfl rfl ?_
      refine go_ifT 118 (D d2_106) (by decide) rfl (by decide) ?_
      refine go_iload 120 (D d2_118) rfl rfl ?_
      have K383 : Keep h0 h368 [a] := ((Keep.refl h0 [a]).wr W369 (Or.inl (by simp)))
      have K384 : Keep h0 h372 [a] := (K383.wr W373 (Or.inl (by simp)))
      have K385 : Keep h0 h376 [a] := (K384.wr W377 (Or.inl (by simp)))
      have K386 : Keep h0 h380 [a] := (K385.wr W381 (Or.inl (by simp)))
      refine go_ireturn hret hlk rfl (by simp) (D d2_120) (by decide) (by decide) ⟨_, rfl, ⟨(Int32.ofNat (n0 + 0)), rfl, ((show tk L (n0 + 0) [(.int (dch (((mag p) / 10 / 10) / 10))), (.int (dch ((mag p) / 10 / 10))), (.int (dch ((mag p) / 10))), (.int (dch (mag p)))] (n0 + 4) = tk L n0 ((rep p).map Value.int) (n0 + (rep p).length) from by rw [n366, rep_p cz1 n330]; rfl) ▸ A382)⟩⟩ K386
    · have n387 : (rep p).length = 5 := rl_p cz1 n330 rfl
      refine go_eqf (g' := mkF m_ 22 #[.val (.int (ng (mag p))), .val (.int (Int32.ofNat (n0 + (rep p).length))), .val (.ref a), .unset, .unset, .val (.int (Int32.ofNat (n0 + 5))), .val (.int 0)] []) (by rw [← ng_pos cz1, n387]) ?_
      have A388 : Arv Z h0 a k .byte (16 : Int32) (tk L (n0 + 5) [] (n0 + 5)) (.int 0) := by rw [tk_start]; exact p5
      refine go_iload_n 23 (D d2_22) rfl rfl ?_
      refine go_bipush 25 (v := (-100)) (D d2_23) rfl rfl ?_
      refine go_icF 28 (D d2_25) rfl (XT.ii_gt_f (fun z => absurd ((ng_le (k := 100) (by have := mag_le p; omega) (by decide) (by decide)).mp z) (by omega))) ?_
      refine go_iload_n 29 (D d2_28) rfl rfl ?_
      refine go_bipush 31 (v := 100) (D d2_29) rfl rfl ?_
      refine go_idiv 32 (z := (ng ((mag p) / 10 / 10))) (D d2_31) rfl (by decide) (ng_div2 (by have := mag_le p; omega)) ?_
      refine go_istore_n 33 (ls' := #[vi (ng (mag p)), vi (Int32.ofNat (n0 + (rep p).length)), vr a, vi (ng ((mag p) / 10 / 10)), un, vi (Int32.ofNat (n0 + 5)), vi 0]) (D d2_32) rfl rfl ?_
      refine go_iload_n 34 (D d2_33) rfl rfl ?_
      refine go_bipush 36 (v := 100) (D d2_34) rfl rfl ?_
      refine go_imul 37 (z := ((ng ((mag p) / 10 / 10)) * (100 : Int32))) (D d2_36) rfl rfl ?_
      refine go_iload_n 38 (D d2_37) rfl rfl ?_
      refine go_isub 39 (z := (Int32.ofNat ((mag p) % 100))) (D d2_38) rfl (ng_rem2 (by have := mag_le p; omega)) ?_
      refine go_istore 41 (ls' := #[vi (ng (mag p)), vi (Int32.ofNat (n0 + (rep p).length)), vr a, vi (ng ((mag p) / 10 / 10)), vi (Int32.ofNat ((mag p) % 100)), vi (Int32.ofNat (n0 + 5)), vi 0]) (D d2_39) rfl rfl ?_
      refine go_iload_n 42 (D d2_41) rfl rfl ?_
      refine go_istore_n 43 (ls' := #[vi (ng ((mag p) / 10 / 10)), vi (Int32.ofNat (n0 + (rep p).length)), vr a, vi (ng ((mag p) / 10 / 10)), vi (Int32.ofNat ((mag p) % 100)), vi (Int32.ofNat (n0 + 5)), vi 0]) (D d2_42) rfl rfl ?_
      refine go_aload_n 44 (D d2_43) rfl rfl rfl ?_
      refine go_iinc 47 (ls' := #[vi (ng ((mag p) / 10 / 10)), vi (Int32.ofNat (n0 + (rep p).length)), vr a, vi (ng ((mag p) / 10 / 10)), vi (Int32.ofNat ((mag p) % 100)), vi (Int32.ofNat (n0 + 4)), vi 0]) (y := (Int32.ofNat (n0 + 4))) (D d2_44) rfl rfl (ofn_dec (n := n0 + 4) (by omega)) rfl ?_
      refine go_iload 49 (D d2_47) rfl rfl ?_
      refine go_getS 52 (wk G 136) ((st_DO G).ext O0.2) (D d2_49) rfl ?_
      refine go_iload 54 (D d2_52) rfl rfl ?_
      refine go_tabO 55 G (n := (mag p) % 100) (v := (dch (mag p))) (by omega) (by unfold dch; congr 1 <;> omega) (D d2_54) rfl ?_
      refine go_stT 56 (i := n0 + 4) (x' := (dch (mag p))) rfl A388 p4 (by simp only [List.length_cons, List.length_nil] <;> omega) (by omega) p1 (dch_i8 _) (D d2_55) rfl (fun h389 W390 A391 => ?_)
      refine go_aload_n 57 (D d2_56) rfl rfl rfl ?_
      refine go_iinc 60 (ls' := #[vi (ng ((mag p) / 10 / 10)), vi (Int32.ofNat (n0 + (rep p).length)), vr a, vi (ng ((mag p) / 10 / 10)), vi (Int32.ofNat ((mag p) % 100)), vi (Int32.ofNat (n0 + 3)), vi 0]) (y := (Int32.ofNat (n0 + 3))) (D d2_57) rfl rfl (ofn_dec (n := n0 + 3) (by omega)) rfl ?_
      refine go_iload 62 (D d2_60) rfl rfl ?_
      refine go_old (fun O392 => ?_)
      refine go_getS 65 (wk G 221) ((st_DT G).ext O392.2) (D d2_62) rfl ?_
      refine go_iload 67 (D d2_65) rfl rfl ?_
      refine go_tabT 68 G (n := (mag p) % 100) (v := (dch ((mag p) / 10))) (by omega) (by unfold dch; congr 1 <;> omega) (D d2_67) rfl ?_
      refine go_stT 69 (i := n0 + 3) (x' := (dch ((mag p) / 10))) rfl A391 p4 (by simp only [List.length_cons, List.length_nil] <;> omega) (by omega) p1 (dch_i8 _) (D d2_68) rfl (fun h393 W394 A395 => ?_)
      refine go_goto 22 (D d2_69) (by decide) rfl ?_
      refine go_iload_n 23 (D d2_22) rfl rfl ?_
      refine go_bipush 25 (v := (-100)) (D d2_23) rfl rfl ?_
      refine go_icF 28 (D d2_25) rfl (XT.ii_gt_f (fun z => absurd ((ng_le (k := 100) (by have := mag_le p; omega) (by decide) (by decide)).mp z) (by omega))) ?_
      refine go_iload_n 29 (D d2_28) rfl rfl ?_
      refine go_bipush 31 (v := 100) (D d2_29) rfl rfl ?_
      refine go_idiv 32 (z := (ng (((mag p) / 10 / 10) / 10 / 10))) (D d2_31) rfl (by decide) (ng_div2 (by have := mag_le p; omega)) ?_
      refine go_istore_n 33 (ls' := #[vi (ng ((mag p) / 10 / 10)), vi (Int32.ofNat (n0 + (rep p).length)), vr a, vi (ng (((mag p) / 10 / 10) / 10 / 10)), vi (Int32.ofNat ((mag p) % 100)), vi (Int32.ofNat (n0 + 3)), vi 0]) (D d2_32) rfl rfl ?_
      refine go_iload_n 34 (D d2_33) rfl rfl ?_
      refine go_bipush 36 (v := 100) (D d2_34) rfl rfl ?_
      refine go_imul 37 (z := ((ng (((mag p) / 10 / 10) / 10 / 10)) * (100 : Int32))) (D d2_36) rfl rfl ?_
      refine go_iload_n 38 (D d2_37) rfl rfl ?_
      refine go_isub 39 (z := (Int32.ofNat (((mag p) / 10 / 10) % 100))) (D d2_38) rfl (ng_rem2 (by have := mag_le p; omega)) ?_
      refine go_istore 41 (ls' := #[vi (ng ((mag p) / 10 / 10)), vi (Int32.ofNat (n0 + (rep p).length)), vr a, vi (ng (((mag p) / 10 / 10) / 10 / 10)), vi (Int32.ofNat (((mag p) / 10 / 10) % 100)), vi (Int32.ofNat (n0 + 3)), vi 0]) (D d2_39) rfl rfl ?_
      refine go_iload_n 42 (D d2_41) rfl rfl ?_
      refine go_istore_n 43 (ls' := #[vi (ng (((mag p) / 10 / 10) / 10 / 10)), vi (Int32.ofNat (n0 + (rep p).length)), vr a, vi (ng (((mag p) / 10 / 10) / 10 / 10)), vi (Int32.ofNat (((mag p) / 10 / 10) % 100)), vi (Int32.ofNat (n0 + 3)), vi 0]) (D d2_42) rfl rfl ?_
      refine go_aload_n 44 (D d2_43) rfl rfl rfl ?_
      refine go_iinc 47 (ls' := #[vi (ng (((mag p) / 10 / 10) / 10 / 10)), vi (Int32.ofNat (n0 + (rep p).length)), vr a, vi (ng (((mag p) / 10 / 10) / 10 / 10)), vi (Int32.ofNat (((mag p) / 10 / 10) % 100)), vi (Int32.ofNat (n0 + 2)), vi 0]) (y := (Int32.ofNat (n0 + 2))) (D d2_44) rfl rfl (ofn_dec (n := n0 + 2) (by omega)) rfl ?_
      refine go_iload 49 (D d2_47) rfl rfl ?_
      refine go_old (fun O396 => ?_)
      refine go_getS 52 (wk G 136) ((st_DO G).ext O396.2) (D d2_49) rfl ?_
      refine go_iload 54 (D d2_52) rfl rfl ?_
      refine go_tabO 55 G (n := ((mag p) / 10 / 10) % 100) (v := (dch ((mag p) / 10 / 10))) (by omega) (by unfold dch; congr 1 <;> omega) (D d2_54) rfl ?_
      refine go_stT 56 (i := n0 + 2) (x' := (dch ((mag p) / 10 / 10))) rfl A395 p4 (by simp only [List.length_cons, List.length_nil] <;> omega) (by omega) p1 (dch_i8 _) (D d2_55) rfl (fun h397 W398 A399 => ?_)
      refine go_aload_n 57 (D d2_56) rfl rfl rfl ?_
      refine go_iinc 60 (ls' := #[vi (ng (((mag p) / 10 / 10) / 10 / 10)), vi (Int32.ofNat (n0 + (rep p).length)), vr a, vi (ng (((mag p) / 10 / 10) / 10 / 10)), vi (Int32.ofNat (((mag p) / 10 / 10) % 100)), vi (Int32.ofNat (n0 + 1)), vi 0]) (y := (Int32.ofNat (n0 + 1))) (D d2_57) rfl rfl (ofn_dec (n := n0 + 1) (by omega)) rfl ?_
      refine go_iload 62 (D d2_60) rfl rfl ?_
      refine go_old (fun O400 => ?_)
      refine go_getS 65 (wk G 221) ((st_DT G).ext O400.2) (D d2_62) rfl ?_
      refine go_iload 67 (D d2_65) rfl rfl ?_
      refine go_tabT 68 G (n := ((mag p) / 10 / 10) % 100) (v := (dch (((mag p) / 10 / 10) / 10))) (by omega) (by unfold dch; congr 1 <;> omega) (D d2_67) rfl ?_
      refine go_stT 69 (i := n0 + 1) (x' := (dch (((mag p) / 10 / 10) / 10))) rfl A399 p4 (by simp only [List.length_cons, List.length_nil] <;> omega) (by omega) p1 (dch_i8 _) (D d2_68) rfl (fun h401 W402 A403 => ?_)
      refine go_goto 22 (D d2_69) (by decide) rfl ?_
      refine go_iload_n 23 (D d2_22) rfl rfl ?_
      refine go_bipush 25 (v := (-100)) (D d2_23) rfl rfl ?_
      refine go_icT 72 (D d2_25) (by decide) rfl (XT.ii_gt_t ((ng_le (k := 100) (by have := mag_le p; omega) (by decide) (by decide)).mpr (by omega))) ?_
      refine go_aload_n 73 (D d2_72) rfl rfl rfl ?_
      refine go_iinc 76 (ls' := #[vi (ng (((mag p) / 10 / 10) / 10 / 10)), vi (Int32.ofNat (n0 + (rep p).length)), vr a, vi (ng (((mag p) / 10 / 10) / 10 / 10)), vi (Int32.ofNat (((mag p) / 10 / 10) % 100)), vi (Int32.ofNat (n0 + 0)), vi 0]) (y := (Int32.ofNat (n0 + 0))) (D d2_73) rfl rfl (ofn_dec (n := n0 + 0) (by omega)) rfl ?_
      refine go_iload 78 (D d2_76) rfl rfl ?_
      refine go_old (fun O404 => ?_)
      refine go_getS 81 (wk G 136) ((st_DO G).ext O404.2) (D d2_78) rfl ?_
      refine go_iload_n 82 (D d2_81) rfl rfl ?_
      refine go_ineg 83 (z := (Int32.ofNat (((mag p) / 10 / 10) / 10 / 10))) (D d2_82) rfl (ng_ng (by omega)) ?_
      refine go_tabO 84 G (n := (((mag p) / 10 / 10) / 10 / 10)) (v := (dch (((mag p) / 10 / 10) / 10 / 10))) (by omega) (by unfold dch; congr 1 <;> omega) (D d2_83) rfl ?_
      refine go_stT 85 (i := n0 + 0) (x' := (dch (((mag p) / 10 / 10) / 10 / 10))) rfl A403 p4 (by simp only [List.length_cons, List.length_nil] <;> omega) (by omega) p1 (dch_i8 _) (D d2_84) rfl (fun h405 W406 A407 => ?_)
      refine go_iload_n 86 (D d2_85) rfl rfl ?_
      refine go_bipush 88 (v := (-9)) (D d2_86) rfl rfl ?_
      refine go_icT 104 (D d2_88) (by decide) rfl (XT.ii_ge_t (fun z => absurd ((ng_lt (k := 9) (by have := mag_le p; omega) (by decide) (by decide)).mp z) (by omega))) ?_
      refine go_iload 106 (D d2_104) rfl rfl ?_
      refine go_ifT 118 (D d2_106) (by decide) rfl (by decide) ?_
      refine go_iload 120 (D d2_118) rfl rfl ?_
      have K408 : Keep h0 h389 [a] := ((Keep.refl h0 [a]).wr W390 (Or.inl (by simp)))
      have K409 : Keep h0 h393 [a] := (K408.wr W394 (Or.inl (by simp)))
      have K410 : Keep h0 h397 [a] := (K409.wr W398 (Or.inl (by simp)))
      have K411 : Keep h0 h401 [a] := (K410.wr W402 (Or.inl (by simp)))
      have K412 : Keep h0 h405 [a] := (K411.wr W406 (Or.inl (by simp)))
      refine go_ireturn hret hlk rfl (by simp) (D d2_120) (by decide) (by decide) ⟨_, rfl, ⟨(Int32.ofNat (n0 + 0)), rfl, ((show tk L (n0 + 0) [(.int (dch (((mag p) / 10 / 10) / 10 / 10))), (.int (dch (((mag p) / 10 / 10) / 10))), (.int (dch ((mag p) / 10 / 10))), (.int (dch ((mag p) / 10))), (.int (dch (mag p)))] (n0 + 5) = tk L n0 ((rep p).map Value.int) (n0 + (rep p).length) from by rw [n387, rep_p cz1 n330]; rfl) ▸ A407)⟩⟩ K412
    · have n413 : (rep p).length = 6 := rl_p cz1 n330 rfl
      refine go_eqf (g' := mkF m_ 22 #[.val (.int (ng (mag p))), .val (.int (Int32.ofNat (n0 + (rep p).length))), .val (.ref a), .unset, .unset, .val (.int (Int32.ofNat (n0 + 6))), .val (.int 0)] []) (by rw [← ng_pos cz1, n413]) ?_
      have A414 : Arv Z h0 a k .byte (16 : Int32) (tk L (n0 + 6) [] (n0 + 6)) (.int 0) := by rw [tk_start]; exact p5
      refine go_iload_n 23 (D d2_22) rfl rfl ?_
      refine go_bipush 25 (v := (-100)) (D d2_23) rfl rfl ?_
      refine go_icF 28 (D d2_25) rfl (XT.ii_gt_f (fun z => absurd ((ng_le (k := 100) (by have := mag_le p; omega) (by decide) (by decide)).mp z) (by omega))) ?_
      refine go_iload_n 29 (D d2_28) rfl rfl ?_
      refine go_bipush 31 (v := 100) (D d2_29) rfl rfl ?_
      refine go_idiv 32 (z := (ng ((mag p) / 10 / 10))) (D d2_31) rfl (by decide) (ng_div2 (by have := mag_le p; omega)) ?_
      refine go_istore_n 33 (ls' := #[vi (ng (mag p)), vi (Int32.ofNat (n0 + (rep p).length)), vr a, vi (ng ((mag p) / 10 / 10)), un, vi (Int32.ofNat (n0 + 6)), vi 0]) (D d2_32) rfl rfl ?_
      refine go_iload_n 34 (D d2_33) rfl rfl ?_
      refine go_bipush 36 (v := 100) (D d2_34) rfl rfl ?_
      refine go_imul 37 (z := ((ng ((mag p) / 10 / 10)) * (100 : Int32))) (D d2_36) rfl rfl ?_
      refine go_iload_n 38 (D d2_37) rfl rfl ?_
      refine go_isub 39 (z := (Int32.ofNat ((mag p) % 100))) (D d2_38) rfl (ng_rem2 (by have := mag_le p; omega)) ?_
      refine go_istore 41 (ls' := #[vi (ng (mag p)), vi (Int32.ofNat (n0 + (rep p).length)), vr a, vi (ng ((mag p) / 10 / 10)), vi (Int32.ofNat ((mag p) % 100)), vi (Int32.ofNat (n0 + 6)), vi 0]) (D d2_39) rfl rfl ?_
      refine go_iload_n 42 (D d2_41) rfl rfl ?_
      refine go_istore_n 43 (ls' := #[vi (ng ((mag p) / 10 / 10)), vi (Int32.ofNat (n0 + (rep p).length)), vr a, vi (ng ((mag p) / 10 / 10)), vi (Int32.ofNat ((mag p) % 100)), vi (Int32.ofNat (n0 + 6)), vi 0]) (D d2_42) rfl rfl ?_
      refine go_aload_n 44 (D d2_43) rfl rfl rfl ?_
      refine go_iinc 47 (ls' := #[vi (ng ((mag p) / 10 / 10)), vi (Int32.ofNat (n0 + (rep p).length)), vr a, vi (ng ((mag p) / 10 / 10)), vi (Int32.ofNat ((mag p) % 100)), vi (Int32.ofNat (n0 + 5)), vi 0]) (y := (Int32.ofNat (n0 + 5))) (D d2_44) rfl rfl (ofn_dec (n := n0 + 5) (by omega)) rfl ?_
      refine go_iload 49 (D d2_47) rfl rfl ?_
      refine go_getS 52 (wk G 136) ((st_DO G).ext O0.2) (D d2_49) rfl ?_
      refine go_iload 54 (D d2_52) rfl rfl ?_
      refine go_tabO 55 G (n := (mag p) % 100) (v := (dch (mag p))) (by omega) (by unfold dch; congr 1 <;> omega) (D d2_54) rfl ?_
      refine go_stT 56 (i := n0 + 5) (x' := (dch (mag p))) rfl A414 p4 (by simp only [List.length_cons, List.length_nil] <;> omega) (by omega) p1 (dch_i8 _) (D d2_55) rfl (fun h415 W416 A417 => ?_)
      refine go_aload_n 57 (D d2_56) rfl rfl rfl ?_
      refine go_iinc 60 (ls' := #[vi (ng ((mag p) / 10 / 10)), vi (Int32.ofNat (n0 + (rep p).length)), vr a, vi (ng ((mag p) / 10 / 10)), vi (Int32.ofNat ((mag p) % 100)), vi (Int32.ofNat (n0 + 4)), vi 0]) (y := (Int32.ofNat (n0 + 4))) (D d2_57) rfl rfl (ofn_dec (n := n0 + 4) (by omega)) rfl ?_
      refine go_iload 62 (D d2_60) rfl rfl ?_
      refine go_old (fun O418 => ?_)
      refine go_getS 65 (wk G 221) ((st_DT G).ext O418.2) (D d2_62) rfl ?_
      refine go_iload 67 (D d2_65) rfl rfl ?_
      refine go_tabT 68 G (n := (mag p) % 100) (v := (dch ((mag p) / 10))) (by omega) (by unfold dch; congr 1 <;> omega) (D d2_67) rfl ?_
      refine go_stT 69 (i := n0 + 4) (x' := (dch ((mag p) / 10))) rfl A417 p4 (by simp only [List.length_cons, List.length_nil] <;> omega) (by omega) p1 (dch_i8 _) (D d2_68) rfl (fun h419 W420 A421 => ?_)
      refine go_goto 22 (D d2_69) (by decide) rfl ?_
      refine go_iload_n 23 (D d2_22) rfl rfl ?_
      refine go_bipush 25 (v := (-100)) (D d2_23) rfl rfl ?_
      refine go_icF 28 (D d2_25) rfl (XT.ii_gt_f (fun z => absurd ((ng_le (k := 100) (by have := mag_le p; omega) (by decide) (by decide)).mp z) (by omega))) ?_
      refine go_iload_n 29 (D d2_28) rfl rfl ?_
      refine go_bipush 31 (v := 100) (D d2_29) rfl rfl ?_
      refine go_idiv 32 (z := (ng (((mag p) / 10 / 10) / 10 / 10))) (D d2_31) rfl (by decide) (ng_div2 (by have := mag_le p; omega)) ?_
      refine go_istore_n 33 (ls' := #[vi (ng ((mag p) / 10 / 10)), vi (Int32.ofNat (n0 + (rep p).length)), vr a, vi (ng (((mag p) / 10 / 10) / 10 / 10)), vi (Int32.ofNat ((mag p) % 100)), vi (Int32.ofNat (n0 + 4)), vi 0]) (D d2_32) rfl rfl ?_
      refine go_iload_n 34 (D d2_33) rfl rfl ?_
      refine go_bipush 36 (v := 100) (D d2_34) rfl rfl ?_
      refine go_imul 37 (z := ((ng (((mag p) / 10 / 10) / 10 / 10)) * (100 : Int32))) (D d2_36) rfl rfl ?_
      refine go_iload_n 38 (D d2_37) rfl rfl ?_
      refine go_isub 39 (z := (Int32.ofNat (((mag p) / 10 / 10) % 100))) (D d2_38) rfl (ng_rem2 (by have := mag_le p; omega)) ?_
      refine go_istore 41 (ls' := #[vi (ng ((mag p) / 10 / 10)), vi (Int32.ofNat (n0 + (rep p).length)), vr a, vi (ng (((mag p) / 10 / 10) / 10 / 10)), vi (Int32.ofNat (((mag p) / 10 / 10) % 100)), vi (Int32.ofNat (n0 + 4)), vi 0]) (D d2_39) rfl rfl ?_
      refine go_iload_n 42 (D d2_41) rfl rfl ?_
      refine go_istore_n 43 (ls' := #[vi (ng (((mag p) / 10 / 10) / 10 / 10)), vi (Int32.ofNat (n0 + (rep p).length)), vr a, vi (ng (((mag p) / 10 / 10) / 10 / 10)), vi (Int32.ofNat (((mag p) / 10 / 10) % 100)), vi (Int32.ofNat (n0 + 4)), vi 0]) (D d2_42) rfl rfl ?_
      refine go_aload_n 44 (D d2_43) rfl rfl rfl ?_
      refine go_iinc 47 (ls' := #[vi (ng (((mag p) / 10 / 10) / 10 / 10)), vi (Int32.ofNat (n0 + (rep p).length)), vr a, vi (ng (((mag p) / 10 / 10) / 10 / 10)), vi (Int32.ofNat (((mag p) / 10 / 10) % 100)), vi (Int32.ofNat (n0 + 3)), vi 0]) (y := (Int32.ofNat (n0 + 3))) (D d2_44) rfl rfl (ofn_dec (n := n0 + 3) (by omega)) rfl ?_
      refine go_iload 49 (D d2_47) rfl rfl ?_
      refine go_old (fun O422 => ?_)
      refine go_getS 52 (wk G 136) ((st_DO G).ext O422.2) (D d2_49) rfl ?_
      refine go_iload 54 (D d2_52) rfl rfl ?_
      refine go_tabO 55 G (n := ((mag p) / 10 / 10) % 100) (v := (dch ((mag p) / 10 / 10))) (by omega) (by unfold dch; congr 1 <;> omega) (D d2_54) rfl ?_
      refine go_stT 56 (i := n0 + 3) (x' := (dch ((mag p) / 10 / 10))) rfl A421 p4 (by simp only [List.length_cons, List.length_nil] <;> omega) (by omega) p1 (dch_i8 _) (D d2_55) rfl (fun h423 W424 A425 => ?_)
      refine go_aload_n 57 (D d2_56) rfl rfl rfl ?_
      refine go_iinc 60 (ls' := #[vi (ng (((mag p) / 10 / 10) / 10 / 10)), vi (Int32.ofNat (n0 + (rep p).length)), vr a, vi (ng (((mag p) / 10 / 10) / 10 / 10)), vi (Int32.ofNat (((mag p) / 10 / 10) % 100)), vi (Int32.ofNat (n0 + 2)), vi 0]) (y := (Int32.ofNat (n0 + 2))) (D d2_57) rfl rfl (ofn_dec (n := n0 + 2) (by omega)) rfl ?_
      refine go_iload 62 (D d2_60) rfl rfl ?_
      refine go_old (fun O426 => ?_)
      refine go_getS 65 (wk G 221) ((st_DT G).ext O426.2) (D d2_62) rfl ?_
      refine go_iload 67 (D d2_65) rfl rfl ?_
      refine go_tabT 68 G (n := ((mag p) / 10 / 10) % 100) (v := (dch (((mag p) / 10 / 10) / 10))) (by omega) (by unfold dch; congr 1 <;> omega) (D d2_67) rfl ?_
      refine go_stT 69 (i := n0 + 2) (x' := (dch (((mag p) / 10 / 10) / 10))) rfl A425 p4 (by simp only [List.length_cons, List.length_nil] <;> omega) (by omega) p1 (dch_i8 _) (D d2_68) rfl (fun h427 W428 A429 => ?_)
      refine go_goto 22 (D d2_69) (by decide) rfl ?_
      refine go_iload_n 23 (D d2_22) rfl rfl ?_
      refine go_bipush 25 (v := (-100)) (D d2_23) rfl rfl ?_
      refine go_icT 72 (D d2_25) (by decide) rfl (XT.ii_gt_t ((ng_le (k := 100) (by have := mag_le p; omega) (by decide) (by decide)).mpr (by omega))) ?_
      refine go_aload_n 73 (D d2_72) rfl rfl rfl ?_
      refine go_iinc 76 (ls' := #[vi (ng (((mag p) / 10 / 10) / 10 / 10)), vi (Int32.ofNat (n0 + (rep p).length)), vr a, vi (ng (((mag p) / 10 / 10) / 10 / 10)), vi (Int32.ofNat (((mag p) / 10 / 10) % 100)), vi (Int32.ofNat (n0 + 1)), vi 0]) (y := (Int32.ofNat (n0 + 1))) (D d2_73) rfl rfl (ofn_dec (n := n0 + 1) (by omega)) rfl ?_
      refine go_iload 78 (D d2_76) rfl rfl ?_
      refine go_old (fun O430 => ?_)
      refine go_getS 81 (wk G 136) ((st_DO G).ext O430.2) (D d2_78) rfl ?_
      refine go_iload_n 82 (D d2_81) rfl rfl ?_
      refine go_ineg 83 (z := (Int32.ofNat (((mag p) / 10 / 10) / 10 / 10))) (D d2_82) rfl (ng_ng (by omega)) ?_
      refine go_tabO 84 G (n := (((mag p) / 10 / 10) / 10 / 10)) (v := (dch (((mag p) / 10 / 10) / 10 / 10))) (by omega) (by unfold dch; congr 1 <;> omega) (D d2_83) rfl ?_
      refine go_stT 85 (i := n0 + 1) (x' := (dch (((mag p) / 10 / 10) / 10 / 10))) rfl A429 p4 (by simp only [List.length_cons, List.length_nil] <;> omega) (by omega) p1 (dch_i8 _) (D d2_84) rfl (fun h431 W432 A433 => ?_)
      refine go_iload_n 86 (D d2_85) rfl rfl ?_
      refine go_bipush 88 (v := (-9)) (D d2_86) rfl rfl ?_
      refine go_icF 91 (D d2_88) rfl (XT.ii_ge_f ((ng_lt (k := 9) (by have := mag_le p; omega) (by decide) (by decide)).mpr (by omega))) ?_
      refine go_aload_n 92 (D d2_91) rfl rfl rfl ?_
      refine go_iinc 95 (ls' := #[vi (ng (((mag p) / 10 / 10) / 10 / 10)), vi (Int32.ofNat (n0 + (rep p).length)), vr a, vi (ng (((mag p) / 10 / 10) / 10 / 10)), vi (Int32.ofNat (((mag p) / 10 / 10) % 100)), vi (Int32.ofNat (n0 + 0)), vi 0]) (y := (Int32.ofNat (n0 + 0))) (D d2_92) rfl rfl (ofn_dec (n := n0 + 0) (by omega)) rfl ?_
      refine go_iload 97 (D d2_95) rfl rfl ?_
      refine go_old (fun O434 => ?_)
      refine go_getS 100 (wk G 221) ((st_DT G).ext O434.2) (D d2_97) rfl ?_
      refine go_iload_n 101 (D d2_100) rfl rfl ?_
      refine go_ineg 102 (z := (Int32.ofNat (((mag p) / 10 / 10) / 10 / 10))) (D d2_101) rfl (ng_ng (by omega)) ?_
      refine go_tabT 103 G (n := (((mag p) / 10 / 10) / 10 / 10)) (v := (dch ((((mag p) / 10 / 10) / 10 / 10) / 10))) (by omega) (by unfold dch; congr 1 <;> omega) (D d2_102) rfl ?_
      refine go_stT 104 (i := n0 + 0) (x' := (dch ((((mag p) / 10 / 10) / 10 / 10) / 10))) rfl A433 p4 (by simp only [List.length_cons, List.length_nil] <;> omega) (by omega) p1 (dch_i8 _) (D d2_103) rfl (fun h435 W436 A437 => ?_)
      refine go_iload 106 (D d2_104) rfl rfl ?_
      refine go_ifT 118 (D d2_106) (by decide) rfl (by decide) ?_
      refine go_iload 120 (D d2_118) rfl rfl ?_
      have K438 : Keep h0 h415 [a] := ((Keep.refl h0 [a]).wr W416 (Or.inl (by simp)))
      have K439 : Keep h0 h419 [a] := (K438.wr W420 (Or.inl (by simp)))
      have K440 : Keep h0 h423 [a] := (K439.wr W424 (Or.inl (by simp)))
      have K441 : Keep h0 h427 [a] := (K440.wr W428 (Or.inl (by simp)))
      have K442 : Keep h0 h431 [a] := (K441.wr W432 (Or.inl (by simp)))
      have K443 : Keep h0 h435 [a] := (K442.wr W436 (Or.inl (by simp)))
      refine go_ireturn hret hlk rfl (by simp) (D d2_120) (by decide) (by decide) ⟨_, rfl, ⟨(Int32.ofNat (n0 + 0)), rfl, ((show tk L (n0 + 0) [(.int (dch ((((mag p) / 10 / 10) / 10 / 10) / 10))), (.int (dch (((mag p) / 10 / 10) / 10 / 10))), (.int (dch (((mag p) / 10 / 10) / 10))), (.int (dch ((mag p) / 10 / 10))), (.int (dch ((mag p) / 10))), (.int (dch (mag p)))] (n0 + 6) = tk L n0 ((rep p).map Value.int) (n0 + (rep p).length) from by rw [n413, rep_p cz1 n330]; rfl) ▸ A437)⟩⟩ K443
    · have n444 : (rep p).length = 7 := rl_p cz1 n330 rfl
      refine go_eqf (g' := mkF m_ 22 #[.val (.int (ng (mag p))), .val (.int (Int32.ofNat (n0 + (rep p).length))), .val (.ref a), .unset, .unset, .val (.int (Int32.ofNat (n0 + 7))), .val (.int 0)] []) (by rw [← ng_pos cz1, n444]) ?_
      have A445 : Arv Z h0 a k .byte (16 : Int32) (tk L (n0 + 7) [] (n0 + 7)) (.int 0) := by rw [tk_start]; exact p5
      refine go_iload_n 23 (D d2_22) rfl rfl ?_
      refine go_bipush 25 (v := (-100)) (D d2_23) rfl rfl ?_
      refine go_icF 28 (D d2_25) rfl (XT.ii_gt_f (fun z => absurd ((ng_le (k := 100) (by have := mag_le p; omega) (by decide) (by decide)).mp z) (by omega))) ?_
      refine go_iload_n 29 (D d2_28) rfl rfl ?_
      refine go_bipush 31 (v := 100) (D d2_29) rfl rfl ?_
      refine go_idiv 32 (z := (ng ((mag p) / 10 / 10))) (D d2_31) rfl (by decide) (ng_div2 (by have := mag_le p; omega)) ?_
      refine go_istore_n 33 (ls' := #[vi (ng (mag p)), vi (Int32.ofNat (n0 + (rep p).length)), vr a, vi (ng ((mag p) / 10 / 10)), un, vi (Int32.ofNat (n0 + 7)), vi 0]) (D d2_32) rfl rfl ?_
      refine go_iload_n 34 (D d2_33) rfl rfl ?_
      refine go_bipush 36 (v := 100) (D d2_34) rfl rfl ?_
      refine go_imul 37 (z := ((ng ((mag p) / 10 / 10)) * (100 : Int32))) (D d2_36) rfl rfl ?_
      refine go_iload_n 38 (D d2_37) rfl rfl ?_
      refine go_isub 39 (z := (Int32.ofNat ((mag p) % 100))) (D d2_38) rfl (ng_rem2 (by have := mag_le p; omega)) ?_
      refine go_istore 41 (ls' := #[vi (ng (mag p)), vi (Int32.ofNat (n0 + (rep p).length)), vr a, vi (ng ((mag p) / 10 / 10)), vi (Int32.ofNat ((mag p) % 100)), vi (Int32.ofNat (n0 + 7)), vi 0]) (D d2_39) rfl rfl ?_
      refine go_iload_n 42 (D d2_41) rfl rfl ?_
      refine go_istore_n 43 (ls' := #[vi (ng ((mag p) / 10 / 10)), vi (Int32.ofNat (n0 + (rep p).length)), vr a, vi (ng ((mag p) / 10 / 10)), vi (Int32.ofNat ((mag p) % 100)), vi (Int32.ofNat (n0 + 7)), vi 0]) (D d2_42) rfl rfl ?_
      refine go_aload_n 44 (D d2_43) rfl rfl rfl ?_
      refine go_iinc 47 (ls' := #[vi (ng ((mag p) / 10 / 10)), vi (Int32.ofNat (n0 + (rep p).length)), vr a, vi (ng ((mag p) / 10 / 10)), vi (Int32.ofNat ((mag p) % 100)), vi (Int32.ofNat (n0 + 6)), vi 0]) (y := (Int32.ofNat (n0 + 6))) (D d2_44) rfl rfl (ofn_dec (n := n0 + 6) (by omega)) rfl ?_
      refine go_iload 49 (D d2_47) rfl rfl ?_
      refine go_getS 52 (wk G 136) ((st_DO G).ext O0.2) (D d2_49) rfl ?_
      refine go_iload 54 (D d2_52) rfl rfl ?_
      refine go_tabO 55 G (n := (mag p) % 100) (v := (dch (mag p))) (by omega) (by unfold dch; congr 1 <;> omega) (D d2_54) rfl ?_
      refine go_stT 56 (i := n0 + 6) (x' := (dch (mag p))) rfl A445 p4 (by simp only [List.length_cons, List.length_nil] <;> omega) (by omega) p1 (dch_i8 _) (D d2_55) rfl (fun h446 W447 A448 => ?_)
      refine go_aload_n 57 (D d2_56) rfl rfl rfl ?_
      refine go_iinc 60 (ls' := #[vi (ng ((mag p) / 10 / 10)), vi (Int32.ofNat (n0 + (rep p).length)), vr a, vi (ng ((mag p) / 10 / 10)), vi (Int32.ofNat ((mag p) % 100)), vi (Int32.ofNat (n0 + 5)), vi 0]) (y := (Int32.ofNat (n0 + 5))) (D d2_57) rfl rfl (ofn_dec (n := n0 + 5) (by omega)) rfl ?_
      refine go_iload 62 (D d2_60) rfl rfl ?_
      refine go_old (fun O449 => ?_)
      refine go_getS 65 (wk G 221) ((st_DT G).ext O449.2) (D d2_62) rfl ?_
      refine go_iload 67 (D d2_65) rfl rfl ?_
      refine go_tabT 68 G (n := (mag p) % 100) (v := (dch ((mag p) / 10))) (by omega) (by unfold dch; congr 1 <;> omega) (D d2_67) rfl ?_
      refine go_stT 69 (i := n0 + 5) (x' := (dch ((mag p) / 10))) rfl A448 p4 (by simp only [List.length_cons, List.length_nil] <;> omega) (by omega) p1 (dch_i8 _) (D d2_68) rfl (fun h450 W451 A452 => ?_)
      refine go_goto 22 (D d2_69) (by decide) rfl ?_
      refine go_iload_n 23 (D d2_22) rfl rfl ?_
      refine go_bipush 25 (v := (-100)) (D d2_23) rfl rfl ?_
      refine go_icF 28 (D d2_25) rfl (XT.ii_gt_f (fun z => absurd ((ng_le (k := 100) (by have := mag_le p; omega) (by decide) (by decide)).mp z) (by omega))) ?_
      refine go_iload_n 29 (D d2_28) rfl rfl ?_
      refine go_bipush 31 (v := 100) (D d2_29) rfl rfl ?_
      refine go_idiv 32 (z := (ng (((mag p) / 10 / 10) / 10 / 10))) (D d2_31) rfl (by decide) (ng_div2 (by have := mag_le p; omega)) ?_
      refine go_istore_n 33 (ls' := #[vi (ng ((mag p) / 10 / 10)), vi (Int32.ofNat (n0 + (rep p).length)), vr a, vi (ng (((mag p) / 10 / 10) / 10 / 10)), vi (Int32.ofNat ((mag p) % 100)), vi (Int32.ofNat (n0 + 5)), vi 0]) (D d2_32) rfl rfl ?_
      refine go_iload_n 34 (D d2_33) rfl rfl ?_
      refine go_bipush 36 (v := 100) (D d2_34) rfl rfl ?_
      refine go_imul 37 (z := ((ng (((mag p) / 10 / 10) / 10 / 10)) * (100 : Int32))) (D d2_36) rfl rfl ?_
      refine go_iload_n 38 (D d2_37) rfl rfl ?_
      refine go_isub 39 (z := (Int32.ofNat (((mag p) / 10 / 10) % 100))) (D d2_38) rfl (ng_rem2 (by have := mag_le p; omega)) ?_
      refine go_istore 41 (ls' := #[vi (ng ((mag p) / 10 / 10)), vi (Int32.ofNat (n0 + (rep p).length)), vr a, vi (ng (((mag p) / 10 / 10) / 10 / 10)), vi (Int32.ofNat (((mag p) / 10 / 10) % 100)), vi (Int32.ofNat (n0 + 5)), vi 0]) (D d2_39) rfl rfl ?_
      refine go_iload_n 42 (D d2_41) rfl rfl ?_
      refine go_istore_n 43 (ls' := #[vi (ng (((mag p) / 10 / 10) / 10 / 10)), vi (Int32.ofNat (n0 + (rep p).length)), vr a, vi (ng (((mag p) / 10 / 10) / 10 / 10)), vi (Int32.ofNat (((mag p) / 10 / 10) % 100)), vi (Int32.ofNat (n0 + 5)), vi 0]) (D d2_42) rfl rfl ?_
      refine go_aload_n 44 (D d2_43) rfl rfl rfl ?_
      refine go_iinc 47 (ls' := #[vi (ng (((mag p) / 10 / 10) / 10 / 10)), vi (Int32.ofNat (n0 + (rep p).length)), vr a, vi (ng (((mag p) / 10 / 10) / 10 / 10)), vi (Int32.ofNat (((mag p) / 10 / 10) % 100)), vi (Int32.ofNat (n0 + 4)), vi 0]) (y := (Int32.ofNat (n0 + 4))) (D d2_44) rfl rfl (ofn_dec (n := n0 + 4) (by omega)) rfl ?_
      refine go_iload 49 (D d2_47) rfl rfl ?_
      refine go_old (fun O453 => ?_)
      refine go_getS 52 (wk G 136) ((st_DO G).ext O453.2) (D d2_49) rfl ?_
      refine go_iload 54 (D d2_52) rfl rfl ?_
      refine go_tabO 55 G (n := ((mag p) / 10 / 10) % 100) (v := (dch ((mag p) / 10 / 10))) (by omega) (by unfold dch; congr 1 <;> omega) (D d2_54) rfl ?_
      refine go_stT 56 (i := n0 + 4) (x' := (dch ((mag p) / 10 / 10))) rfl A452 p4 (by simp only [List.length_cons, List.length_nil] <;> omega) (by omega) p1 (dch_i8 _) (D d2_55) rfl (fun h454 W455 A456 => ?_)
      refine go_aload_n 57 (D d2_56) rfl rfl rfl ?_
      refine go_iinc 60 (ls' := #[vi (ng (((mag p) / 10 / 10) / 10 / 10)), vi (Int32.ofNat (n0 + (rep p).length)), vr a, vi (ng (((mag p) / 10 / 10) / 10 / 10)), vi (Int32.ofNat (((mag p) / 10 / 10) % 100)), vi (Int32.ofNat (n0 + 3)), vi 0]) (y := (Int32.ofNat (n0 + 3))) (D d2_57) rfl rfl (ofn_dec (n := n0 + 3) (by omega)) rfl ?_
      refine go_iload 62 (D d2_60) rfl rfl ?_
      refine go_old (fun O457 => ?_)
      refine go_getS 65 (wk G 221) ((st_DT G).ext O457.2) (D d2_62) rfl ?_
      refine go_iload 67 (D d2_65) rfl rfl ?_
      refine go_tabT 68 G (n := ((mag p) / 10 / 10) % 100) (v := (dch (((mag p) / 10 / 10) / 10))) (by omega) (by unfold dch; congr 1 <;> omega) (D d2_67) rfl ?_
      refine go_stT 69 (i := n0 + 3) (x' := (dch (((mag p) / 10 / 10) / 10))) rfl A456 p4 (by simp only [List.length_cons, List.length_nil] <;> omega) (by omega) p1 (dch_i8 _) (D d2_68) rfl (fun h458 W459 A460 => ?_)
      refine go_goto 22 (D d2_69) (by decide) rfl ?_
      refine go_iload_n 23 (D d2_22) rfl rfl ?_
      refine go_bipush 25 (v := (-100)) (D d2_23) rfl rfl ?_
      refine go_icF 28 (D d2_25) rfl (XT.ii_gt_f (fun z => absurd ((ng_le (k := 100) (by have := mag_le p; omega) (by decide) (by decide)).mp z) (by omega))) ?_
      refine go_iload_n 29 (D d2_28) rfl rfl ?_
      refine go_bipush 31 (v := 100) (D d2_29) rfl rfl ?_
      refine go_idiv 32 (z := (ng ((((mag p) / 10 / 10) / 10 / 10) / 10 / 10))) (D d2_31) rfl (by decide) (ng_div2 (by have := mag_le p; omega)) ?_
      refine go_istore_n 33 (ls' := #[vi (ng (((mag p) / 10 / 10) / 10 / 10)), vi (Int32.ofNat (n0 + (rep p).length)), vr a, vi (ng ((((mag p) / 10 / 10) / 10 / 10) / 10 / 10)), vi (Int32.ofNat (((mag p) / 10 / 10) % 100)), vi (Int32.ofNat (n0 + 3)), vi 0]) (D d2_32) rfl rfl ?_
      refine go_iload_n 34 (D d2_33) rfl rfl ?_
      refine go_bipush 36 (v := 100) (D d2_34) rfl rfl ?_
      refine go_imul 37 (z := ((ng ((((mag p) / 10 / 10) / 10 / 10) / 10 / 10)) * (100 : Int32))) (D d2_36) rfl rfl ?_
      refine go_iload_n 38 (D d2_37) rfl rfl ?_
      refine go_isub 39 (z := (Int32.ofNat ((((mag p) / 10 / 10) / 10 / 10) % 100))) (D d2_38) rfl (ng_rem2 (by have := mag_le p; omega)) ?_
      refine go_istore 41 (ls' := #[vi (ng (((mag p) / 10 / 10) / 10 / 10)), vi (Int32.ofNat (n0 + (rep p).length)), vr a, vi (ng ((((mag p) / 10 / 10) / 10 / 10) / 10 / 10)), vi (Int32.ofNat ((((mag p) / 10 / 10) / 10 / 10) % 100)), vi (Int32.ofNat (n0 + 3)), vi 0]) (D d2_39) rfl rfl ?_
      refine go_iload_n 42 (D d2_41) rfl rfl ?_
      refine go_istore_n 43 (ls' := #[vi (ng ((((mag p) / 10 / 10) / 10 / 10) / 10 / 10)), vi (Int32.ofNat (n0 + (rep p).length)), vr a, vi (ng ((((mag p) / 10 / 10) / 10 / 10) / 10 / 10)), vi (Int32.ofNat ((((mag p) / 10 / 10) / 10 / 10) % 100)), vi (Int32.ofNat (n0 + 3)), vi 0]) (D d2_42) rfl rfl ?_
      refine go_aload_n 44 (D d2_43) rfl rfl rfl ?_
      refine go_iinc 47 (ls' := #[vi (ng ((((mag p) / 10 / 10) / 10 / 10) / 10 / 10)), vi (Int32.ofNat (n0 + (rep p).length)), vr a, vi (ng ((((mag p) / 10 / 10) / 10 / 10) / 10 / 10)), vi (Int32.ofNat ((((mag p) / 10 / 10) / 10 / 10) % 100)), vi (Int32.ofNat (n0 + 2)), vi 0]) (y := (Int32.ofNat (n0 + 2))) (D d2_44) rfl rfl (ofn_dec (n := n0 + 2) (by omega)) rfl ?_
      refine go_iload 49 (D d2_47) rfl rfl ?_
      refine go_old (fun O461 => ?_)
      refine go_getS 52 (wk G 136) ((st_DO G).ext O461.2) (D d2_49) rfl ?_
      refine go_iload 54 (D d2_52) rfl rfl ?_
      refine go_tabO 55 G (n := (((mag p) / 10 / 10) / 10 / 10) % 100) (v := (dch (((mag p) / 10 / 10) / 10 / 10))) (by omega) (by unfold dch; congr 1 <;> omega) (D d2_54) rfl ?_
      refine go_stT 56 (i := n0 + 2) (x' := (dch (((mag p) / 10 / 10) / 10 / 10))) rfl A460 p4 (by simp only [List.length_cons, List.length_nil] <;> omega) (by omega) p1 (dch_i8 _) (D d2_55) rfl (fun h462 W463 A464 => ?_)
      refine go_aload_n 57 (D d2_56) rfl rfl rfl ?_
      refine go_iinc 60 (ls' := #[vi (ng ((((mag p) / 10 / 10) / 10 / 10) / 10 / 10)), vi (Int32.ofNat (n0 + (rep p).length)), vr a, vi (ng ((((mag p) / 10 / 10) / 10 / 10) / 10 / 10)), vi (Int32.ofNat ((((mag p) / 10 / 10) / 10 / 10) % 100)), vi (Int32.ofNat (n0 + 1)), vi 0]) (y := (Int32.ofNat (n0 + 1))) (D d2_57) rfl rfl (ofn_dec (n := n0 + 1) (by omega)) rfl ?_
      refine go_iload 62 (D d2_60) rfl rfl ?_
      refine go_old (fun O465 => ?_)
      refine go_getS 65 (wk G 221) ((st_DT G).ext O465.2) (D d2_62) rfl ?_
      refine go_iload 67 (D d2_65) rfl rfl ?_
      refine go_tabT 68 G (n := (((mag p) / 10 / 10) / 10 / 10) % 100) (v := (dch ((((mag p) / 10 / 10) / 10 / 10) / 10))) (by omega) (by unfold dch; congr 1 <;> omega) (D d2_67) rfl ?_
      refine go_stT 69 (i := n0 + 1) (x' := (dch ((((mag p) / 10 / 10) / 10 / 10) / 10))) rfl A464 p4 (by simp only [List.length_cons, List.length_nil] <;> omega) (by omega) p1 (dch_i8 _) (D d2_68) rfl (fun h466 W467 A468 => ?_)
      refine go_goto 22 (D d2_69) (by decide) rfl ?_
      refine go_iload_n 23 (D d2_22) rfl rfl ?_
      refine go_bipush 25 (v := (-100)) (D d2_23) rfl rfl ?_
      refine go_icT 72 (D d2_25) (by decide) rfl (XT.ii_gt_t ((ng_le (k := 100) (by have := mag_le p; omega) (by decide) (by decide)).mpr (by omega))) ?_
      refine go_aload_n 73 (D d2_72) rfl rfl rfl ?_
      refine go_iinc 76 (ls' := #[vi (ng ((((mag p) / 10 / 10) / 10 / 10) / 10 / 10)), vi (Int32.ofNat (n0 + (rep p).length)), vr a, vi (ng ((((mag p) / 10 / 10) / 10 / 10) / 10 / 10)), vi (Int32.ofNat ((((mag p) / 10 / 10) / 10 / 10) % 100)), vi (Int32.ofNat (n0 + 0)), vi 0]) (y := (Int32.ofNat (n0 + 0))) (D d2_73) rfl rfl (ofn_dec (n := n0 + 0) (by omega)) rfl ?_
      refine go_iload 78 (D d2_76) rfl rfl ?_
      refine go_old (fun O469 => ?_)
      refine go_getS 81 (wk G 136) ((st_DO G).ext O469.2) (D d2_78) rfl ?_
      refine go_iload_n 82 (D d2_81) rfl rfl ?_
      refine go_ineg 83 (z := (Int32.ofNat ((((mag p) / 10 / 10) / 10 / 10) / 10 / 10))) (D d2_82) rfl (ng_ng (by omega)) ?_
      refine go_tabO 84 G (n := ((((mag p) / 10 / 10) / 10 / 10) / 10 / 10)) (v := (dch ((((mag p) / 10 / 10) / 10 / 10) / 10 / 10))) (by omega) (by unfold dch; congr 1 <;> omega) (D d2_83) rfl ?_
      refine go_stT 85 (i := n0 + 0) (x' := (dch ((((mag p) / 10 / 10) / 10 / 10) / 10 / 10))) rfl A468 p4 (by simp only [List.length_cons, List.length_nil] <;> omega) (by omega) p1 (dch_i8 _) (D d2_84) rfl (fun h470 W471 A472 => ?_)
      refine go_iload_n 86 (D d2_85) rfl rfl ?_
      refine go_bipush 88 (v := (-9)) (D d2_86) rfl rfl ?_
      refine go_icT 104 (D d2_88) (by decide) rfl (XT.ii_ge_t (fun z => absurd ((ng_lt (k := 9) (by have := mag_le p; omega) (by decide) (by decide)).mp z) (by omega))) ?_
      refine go_iload 106 (D d2_104) rfl rfl ?_
      refine go_ifT 118 (D d2_106) (by decide) rfl (by decide) ?_
      refine go_iload 120 (D d2_118) rfl rfl ?_
      have K473 : Keep h0 h446 [a] := ((Keep.refl h0 [a]).wr W447 (Or.inl (by simp)))
      have K474 : Keep h0 h450 [a] := (K473.wr W451 (Or.inl (by simp)))
      have K475 : Keep h0 h454 [a] := (K474.wr W455 (Or.inl (by simp)))
      have K476 : Keep h0 h458 [a] := (K475.wr W459 (Or.inl (by simp)))
      have K477 : Keep h0 h462 [a] := (K476.wr W463 (Or.inl (by simp)))
      have K478 : Keep h0 h466 [a] := (K477.wr W467 (Or.inl (by simp)))
      have K479 : Keep h0 h470 [a] := (K478.wr W471 (Or.inl (by simp)))
      refine go_ireturn hret hlk rfl (by simp) (D d2_120) (by decide) (by decide) ⟨_, rfl, ⟨(Int32.ofNat (n0 + 0)), rfl, ((show tk L (n0 + 0) [(.int (dch ((((mag p) / 10 / 10) / 10 / 10) / 10 / 10))), (.int (dch ((((mag p) / 10 / 10) / 10 / 10) / 10))), (.int (dch (((mag p) / 10 / 10) / 10 / 10))), (.int (dch (((mag p) / 10 / 10) / 10))), (.int (dch ((mag p) / 10 / 10))), (.int (dch ((mag p) / 10))), (.int (dch (mag p)))] (n0 + 7) = tk L n0 ((rep p).map Value.int) (n0 + (rep p).length) from by rw [n444, rep_p cz1 n330]; rfl) ▸ A472)⟩⟩ K479
    · have n480 : (rep p).length = 8 := rl_p cz1 n330 rfl
      refine go_eqf (g' := mkF m_ 22 #[.val (.int (ng (mag p))), .val (.int (Int32.ofNat (n0 + (rep p).length))), .val (.ref a), .unset, .unset, .val (.int (Int32.ofNat (n0 + 8))), .val (.int 0)] []) (by rw [← ng_pos cz1, n480]) ?_
      have A481 : Arv Z h0 a k .byte (16 : Int32) (tk L (n0 + 8) [] (n0 + 8)) (.int 0) := by rw [tk_start]; exact p5
      refine go_iload_n 23 (D d2_22) rfl rfl ?_
      refine go_bipush 25 (v := (-100)) (D d2_23) rfl rfl ?_
      refine go_icF 28 (D d2_25) rfl (XT.ii_gt_f (fun z => absurd ((ng_le (k := 100) (by have := mag_le p; omega) (by decide) (by decide)).mp z) (by omega))) ?_
      refine go_iload_n 29 (D d2_28) rfl rfl ?_
      refine go_bipush 31 (v := 100) (D d2_29) rfl rfl ?_
      refine go_idiv 32 (z := (ng ((mag p) / 10 / 10))) (D d2_31) rfl (by decide) (ng_div2 (by have := mag_le p; omega)) ?_
      refine go_istore_n 33 (ls' := #[vi (ng (mag p)), vi (Int32.ofNat (n0 + (rep p).length)), vr a, vi (ng ((mag p) / 10 / 10)), un, vi (Int32.ofNat (n0 + 8)), vi 0]) (D d2_32) rfl rfl ?_
      refine go_iload_n 34 (D d2_33) rfl rfl ?_
      refine go_bipush 36 (v := 100) (D d2_34) rfl rfl ?_
      refine go_imul 37 (z := ((ng ((mag p) / 10 / 10)) * (100 : Int32))) (D d2_36) rfl rfl ?_
      refine go_iload_n 38 (D d2_37) rfl rfl ?_
      refine go_isub 39 (z := (Int32.ofNat ((mag p) % 100))) (D d2_38) rfl (ng_rem2 (by have := mag_le p; omega)) ?_
      refine go_istore 41 (ls' := #[vi (ng (mag p)), vi (Int32.ofNat (n0 + (rep p).length)), vr a, vi (ng ((mag p) / 10 / 10)), vi (Int32.ofNat ((mag p) % 100)), vi (Int32.ofNat (n0 + 8)), vi 0]) (D d2_39) rfl rfl ?_
      refine go_iload_n 42 (D d2_41) rfl rfl ?_
      refine go_istore_n 43 (ls' := #[vi (ng ((mag p) / 10 / 10)), vi (Int32.ofNat (n0 + (rep p).length)), vr a, vi (ng ((mag p) / 10 / 10)), vi (Int32.ofNat ((mag p) % 100)), vi (Int32.ofNat (n0 + 8)), vi 0]) (D d2_42) rfl rfl ?_
      refine go_aload_n 44 (D d2_43) rfl rfl rfl ?_
      refine go_iinc 47 (ls' := #[vi (ng ((mag p) / 10 / 10)), vi (Int32.ofNat (n0 + (rep p).length)), vr a, vi (ng ((mag p) / 10 / 10)), vi (Int32.ofNat ((mag p) % 100)), vi (Int32.ofNat (n0 + 7)), vi 0]) (y := (Int32.ofNat (n0 + 7))) (D d2_44) rfl rfl (ofn_dec (n := n0 + 7) (by omega)) rfl ?_
      refine go_iload 49 (D d2_47) rfl rfl ?_
      refine go_getS 52 (wk G 136) ((st_DO G).ext O0.2) (D d2_49) rfl ?_
      refine go_iload 54 (D d2_52) rfl rfl ?_
      refine go_tabO 55 G (n := (mag p) % 100) (v := (dch (mag p))) (by omega) (by unfold dch; congr 1 <;> omega) (D d2_54) rfl ?_
      refine go_stT 56 (i := n0 + 7) (x' := (dch (mag p))) rfl A481 p4 (by simp only [List.length_cons, List.length_nil] <;> omega) (by omega) p1 (dch_i8 _) (D d2_55) rfl (fun h482 W483 A484 => ?_)
      refine go_aload_n 57 (D d2_56) rfl rfl rfl ?_
      refine go_iinc 60 (ls' := #[vi (ng ((mag p) / 10 / 10)), vi (Int32.ofNat (n0 + (rep p).length)), vr a, vi (ng ((mag p) / 10 / 10)), vi (Int32.ofNat ((mag p) % 100)), vi (Int32.ofNat (n0 + 6)), vi 0]) (y := (Int32.ofNat (n0 + 6))) (D d2_57) rfl rfl (ofn_dec (n := n0 + 6) (by omega)) rfl ?_
      refine go_iload 62 (D d2_60) rfl rfl ?_
      refine go_old (fun O485 => ?_)
      refine go_getS 65 (wk G 221) ((st_DT G).ext O485.2) (D d2_62) rfl ?_
      refine go_iload 67 (D d2_65) rfl rfl ?_
      refine go_tabT 68 G (n := (mag p) % 100) (v := (dch ((mag p) / 10))) (by omega) (by unfold dch; congr 1 <;> omega) (D d2_67) rfl ?_
      refine go_stT 69 (i := n0 + 6) (x' := (dch ((mag p) / 10))) rfl A484 p4 (by simp only [List.length_cons, List.length_nil] <;> omega) (by omega) p1 (dch_i8 _) (D d2_68) rfl (fun h486 W487 A488 => ?_)
      refine go_goto 22 (D d2_69) (by decide) rfl ?_
      refine go_iload_n 23 (D d2_22) rfl rfl ?_
      refine go_bipush 25 (v := (-100)) (D d2_23) rfl rfl ?_
      refine go_icF 28 (D d2_25) rfl (XT.ii_gt_f (fun z => absurd ((ng_le (k := 100) (by have := mag_le p; omega) (by decide) (by decide)).mp z) (by omega))) ?_
      refine go_iload_n 29 (D d2_28) rfl rfl ?_
      refine go_bipush 31 (v := 100) (D d2_29) rfl rfl ?_
      refine go_idiv 32 (z := (ng (((mag p) / 10 / 10) / 10 / 10))) (D d2_31) rfl (by decide) (ng_div2 (by have := mag_le p; omega)) ?_
      refine go_istore_n 33 (ls' := #[vi (ng ((mag p) / 10 / 10)), vi (Int32.ofNat (n0 + (rep p).length)), vr a, vi (ng (((mag p) / 10 / 10) / 10 / 10)), vi (Int32.ofNat ((mag p) % 100)), vi (Int32.ofNat (n0 + 6)), vi 0]) (D d2_32) rfl rfl ?_
      refine go_iload_n 34 (D d2_33) rfl rfl ?_
      refine go_bipush 36 (v := 100) (D d2_34) rfl rfl ?_
      refine go_imul 37 (z := ((ng (((mag p) / 10 / 10) / 10 / 10)) * (100 : Int32))) (D d2_36) rfl rfl ?_
      refine go_iload_n 38 (D d2_37) rfl rfl ?_
      refine go_isub 39 (z := (Int32.ofNat (((mag p) / 10 / 10) % 100))) (D d2_38) rfl (ng_rem2 (by have := mag_le p; omega)) ?_
      refine go_istore 41 (ls' := #[vi (ng ((mag p) / 10 / 10)), vi (Int32.ofNat (n0 + (rep p).length)), vr a, vi (ng (((mag p) / 10 / 10) / 10 / 10)), vi (Int32.ofNat (((mag p) / 10 / 10) % 100)), vi (Int32.ofNat (n0 + 6)), vi 0]) (D d2_39) rfl rfl ?_
      refine go_iload_n 42 (D d2_41) rfl rfl ?_
      refine go_istore_n 43 (ls' := #[vi (ng (((mag p) / 10 / 10) / 10 / 10)), vi (Int32.ofNat (n0 + (rep p).length)), vr a, vi (ng (((mag p) / 10 / 10) / 10 / 10)), vi (Int32.ofNat (((mag p) / 10 / 10) % 100)), vi (Int32.ofNat (n0 + 6)), vi 0]) (D d2_42) rfl rfl ?_
      refine go_aload_n 44 (D d2_43) rfl rfl rfl ?_
      refine go_iinc 47 (ls' := #[vi (ng (((mag p) / 10 / 10) / 10 / 10)), vi (Int32.ofNat (n0 + (rep p).length)), vr a, vi (ng (((mag p) / 10 / 10) / 10 / 10)), vi (Int32.ofNat (((mag p) / 10 / 10) % 100)), vi (Int32.ofNat (n0 + 5)), vi 0]) (y := (Int32.ofNat (n0 + 5))) (D d2_44) rfl rfl (ofn_dec (n := n0 + 5) (by omega)) rfl ?_
      refine go_iload 49 (D d2_47) rfl rfl ?_
      refine go_old (fun O489 => ?_)
      refine go_getS 52 (wk G 136) ((st_DO G).ext O489.2) (D d2_49) rfl ?_
      refine go_iload 54 (D d2_52) rfl rfl ?_
      refine go_tabO 55 G (n := ((mag p) / 10 / 10) % 100) (v := (dch ((mag p) / 10 / 10))) (by omega) (by unfold dch; congr 1 <;> omega) (D d2_54) rfl ?_
      refine go_stT 56 (i := n0 + 5) (x' := (dch ((mag p) / 10 / 10))) rfl A488 p4 (by simp only [List.length_cons, List.length_nil] <;> omega) (by omega) p1 (dch_i8 _) (D d2_55) rfl (fun h490 W491 A492 => ?_)
      refine go_aload_n 57 (D d2_56) rfl rfl rfl ?_
      refine go_iinc 60 (ls' := #[vi (ng (((mag p) / 10 / 10) / 10 / 10)), vi (Int32.ofNat (n0 + (rep p).length)), vr a, vi (ng (((mag p) / 10 / 10) / 10 / 10)), vi (Int32.ofNat (((mag p) / 10 / 10) % 100)), vi (Int32.ofNat (n0 + 4)), vi 0]) (y := (Int32.ofNat (n0 + 4))) (D d2_57) rfl rfl (ofn_dec (n := n0 + 4) (by omega)) rfl ?_
      refine go_iload 62 (D d2_60) rfl rfl ?_
      refine go_old (fun O493 => ?_)
      refine go_getS 65 (wk G 221) ((st_DT G).ext O493.2) (D d2_62) rfl ?_
      refine go_iload 67 (D d2_65) rfl rfl ?_
      refine go_tabT 68 G (n := ((mag p) / 10 / 10) % 100) (v := (dch (((mag p) / 10 / 10) / 10))) (by omega) (by unfold dch; congr 1 <;> omega) (D d2_67) rfl ?_
      refine go_stT 69 (i := n0 + 4) (x' := (dch (((mag p) / 10 / 10) / 10))) rfl A492 p4 (by simp only [List.length_cons, List.length_nil] <;> omega) (by omega) p1 (dch_i8 _) (D d2_68) rfl (fun h494 W495 A496 => ?_)
      refine go_goto 22 (D d2_69) (by decide) rfl ?_
      refine go_iload_n 23 (D d2_22) rfl rfl ?_
      refine go_bipush 25 (v := (-100)) (D d2_23) rfl rfl ?_
      refine go_icF 28 (D d2_25) rfl (XT.ii_gt_f (fun z => absurd ((ng_le (k := 100) (by have := mag_le p; omega) (by decide) (by decide)).mp z) (by omega))) ?_
      refine go_iload_n 29 (D d2_28) rfl rfl ?_
      refine go_bipush 31 (v := 100) (D d2_29) rfl rfl ?_
      refine go_idiv 32 (z := (ng ((((mag p) / 10 / 10) / 10 / 10) / 10 / 10))) (D d2_31) rfl (by decide) (ng_div2 (by have := mag_le p; omega)) ?_
      refine go_istore_n 33 (ls' := #[vi (ng (((mag p) / 10 / 10) / 10 / 10)), vi (Int32.ofNat (n0 + (rep p).length)), vr a, vi (ng ((((mag p) / 10 / 10) / 10 / 10) / 10 / 10)), vi (Int32.ofNat (((mag p) / 10 / 10) % 100)), vi (Int32.ofNat (n0 + 4)), vi 0]) (D d2_32) rfl rfl ?_
      refine go_iload_n 34 (D d2_33) rfl rfl ?_
      refine go_bipush 36 (v := 100) (D d2_34) rfl rfl ?_
      refine go_imul 37 (z := ((ng ((((mag p) / 10 / 10) / 10 / 10) / 10 / 10)) * (100 : Int32))) (D d2_36) rfl rfl ?_
      refine go_iload_n 38 (D d2_37) rfl rfl ?_
      refine go_isub 39 (z := (Int32.ofNat ((((mag p) / 10 / 10) / 10 / 10) % 100))) (D d2_38) rfl (ng_rem2 (by have := mag_le p; omega)) ?_
      refine go_istore 41 (ls' := #[vi (ng (((mag p) / 10 / 10) / 10 / 10)), vi (Int32.ofNat (n0 + (rep p).length)), vr a, vi (ng ((((mag p) / 10 / 10) / 10 / 10) / 10 / 10)), vi (Int32.ofNat ((((mag p) / 10 / 10) / 10 / 10) % 100)), vi (Int32.ofNat (n0 + 4)), vi 0]) (D d2_39) rfl rfl ?_
      refine go_iload_n 42 (D d2_41) rfl rfl ?_
      refine go_istore_n 43 (ls' := #[vi (ng ((((mag p) / 10 / 10) / 10 / 10) / 10 / 10)), vi (Int32.ofNat (n0 + (rep p).length)), vr a, vi (ng ((((mag p) / 10 / 10) / 10 / 10) / 10 / 10)), vi (Int32.ofNat ((((mag p) / 10 / 10) / 10 / 10) % 100)), vi (Int32.ofNat (n0 + 4)), vi 0]) (D d2_42) rfl rfl ?_
      refine go_aload_n 44 (D d2_43) rfl rfl rfl ?_
      refine go_iinc 47 (ls' := #[vi (ng ((((mag p) / 10 / 10) / 10 / 10) / 10 / 10)), vi (Int32.ofNat (n0 + (rep p).length)), vr a, vi (ng ((((mag p) / 10 / 10) / 10 / 10) / 10 / 10)), vi (Int32.ofNat ((((mag p) / 10 / 10) / 10 / 10) % 100)), vi (Int32.ofNat (n0 + 3)), vi 0]) (y := (Int32.ofNat (n0 + 3))) (D d2_44) rfl rfl (ofn_dec (n := n0 + 3) (by omega)) rfl ?_
      refine go_iload 49 (D d2_47) rfl rfl ?_
      refine go_old (fun O497 => ?_)
      refine go_getS 52 (wk G 136) ((st_DO G).ext O497.2) (D d2_49) rfl ?_
      refine go_iload 54 (D d2_52) rfl rfl ?_
      refine go_tabO 55 G (n := (((mag p) / 10 / 10) / 10 / 10) % 100) (v := (dch (((mag p) / 10 / 10) / 10 / 10))) (by omega) (by unfold dch; congr 1 <;> omega) (D d2_54) rfl ?_
      refine go_stT 56 (i := n0 + 3) (x' := (dch (((mag p) / 10 / 10) / 10 / 10))) rfl A496 p4 (by simp only [List.length_cons, List.length_nil] <;> omega) (by omega) p1 (dch_i8 _) (D d2_55) rfl (fun h498 W499 A500 => ?_)
      refine go_aload_n 57 (D d2_56) rfl rfl rfl ?_
      refine go_iinc 60 (ls' := #[vi (ng ((((mag p) / 10 / 10) / 10 / 10) / 10 / 10)), vi (Int32.ofNat (n0 + (rep p).length)), vr a, vi (ng ((((mag p) / 10 / 10) / 10 / 10) / 10 / 10)), vi (Int32.ofNat ((((mag p) / 10 / 10) / 10 / 10) % 100)), vi (Int32.ofNat (n0 + 2)), vi 0]) (y := (Int32.ofNat (n0 + 2))) (D d2_57) rfl rfl (ofn_dec (n := n0 + 2) (by omega)) rfl ?_
      refine go_iload 62 (D d2_60) rfl rfl ?_
      refine go_old (fun O501 => ?_)
      refine go_getS 65 (wk G 221) ((st_DT G).ext O501.2) (D d2_62) rfl ?_
      refine go_iload 67 (D d2_65) rfl rfl ?_
      refine go_tabT 68 G (n := (((mag p) / 10 / 10) / 10 / 10) % 100) (v := (dch ((((mag p) / 10 / 10) / 10 / 10) / 10))) (by omega) (by unfold dch; congr 1 <;> omega) (D d2_67) rfl ?_
      refine go_stT 69 (i := n0 + 2) (x' := (dch ((((mag p) / 10 / 10) / 10 / 10) / 10))) rfl A500 p4 (by simp only [List.length_cons, List.length_nil] <;> omega) (by omega) p1 (dch_i8 _) (D d2_68) rfl (fun h502 W503 A504 => ?_)
      refine go_goto 22 (D d2_69) (by decide) rfl ?_
      refine go_iload_n 23 (D d2_22) rfl rfl ?_
      refine go_bipush 25 (v := (-100)) (D d2_23) rfl rfl ?_
      refine go_icT 72 (D d2_25) (by decide) rfl (XT.ii_gt_t ((ng_le (k := 100) (by have := mag_le p; omega) (by decide) (by decide)).mpr (by omega))) ?_
      refine go_aload_n 73 (D d2_72) rfl rfl rfl ?_
      refine go_iinc 76 (ls' := #[vi (ng ((((mag p) / 10 / 10) / 10 / 10) / 10 / 10)), vi (Int32.ofNat (n0 + (rep p).length)), vr a, vi (ng ((((mag p) / 10 / 10) / 10 / 10) / 10 / 10)), vi (Int32.ofNat ((((mag p) / 10 / 10) / 10 / 10) % 100)), vi (Int32.ofNat (n0 + 1)), vi 0]) (y := (Int32.ofNat (n0 + 1))) (D d2_73) rfl rfl (ofn_dec (n := n0 + 1) (by omega)) rfl ?_
      refine go_iload 78 (D d2_76) rfl rfl ?_
      refine go_old (fun O505 => ?_)
      refine go_getS 81 (wk G 136) ((st_DO G).ext O505.2) (D d2_78) rfl ?_
      refine go_iload_n 82 (D d2_81) rfl rfl ?_
      refine go_ineg 83 (z := (Int32.ofNat ((((mag p) / 10 / 10) / 10 / 10) / 10 / 10))) (D d2_82) rfl (ng_ng (by omega)) ?_
      refine go_tabO 84 G (n := ((((mag p) / 10 / 10) / 10 / 10) / 10 / 10)) (v := (dch ((((mag p) / 10 / 10) / 10 / 10) / 10 / 10))) (by omega) (by unfold dch; congr 1 <;> omega) (D d2_83) rfl ?_
      refine go_stT 85 (i := n0 + 1) (x' := (dch ((((mag p) / 10 / 10) / 10 / 10) / 10 / 10))) rfl A504 p4 (by simp only [List.length_cons, List.length_nil] <;> omega) (by omega) p1 (dch_i8 _) (D d2_84) rfl (fun h506 W507 A508 => ?_)
      refine go_iload_n 86 (D d2_85) rfl rfl ?_
      refine go_bipush 88 (v := (-9)) (D d2_86) rfl rfl ?_
      refine go_icF 91 (D d2_88) rfl (XT.ii_ge_f ((ng_lt (k := 9) (by have := mag_le p; omega) (by decide) (by decide)).mpr (by omega))) ?_
      refine go_aload_n 92 (D d2_91) rfl rfl rfl ?_
      refine go_iinc 95 (ls' := #[vi (ng ((((mag p) / 10 / 10) / 10 / 10) / 10 / 10)), vi (Int32.ofNat (n0 + (rep p).length)), vr a, vi (ng ((((mag p) / 10 / 10) / 10 / 10) / 10 / 10)), vi (Int32.ofNat ((((mag p) / 10 / 10) / 10 / 10) % 100)), vi (Int32.ofNat (n0 + 0)), vi 0]) (y := (Int32.ofNat (n0 + 0))) (D d2_92) rfl rfl (ofn_dec (n := n0 + 0) (by omega)) rfl ?_
      refine go_iload 97 (D d2_95) rfl rfl ?_
      refine go_old (fun O509 => ?_)
      refine go_getS 100 (wk G 221) ((st_DT G).ext O509.2) (D d2_97) rfl ?_
      refine go_iload_n 101 (D d2_100) rfl rfl ?_
      refine go_ineg 102 (z := (Int32.ofNat ((((mag p) / 10 / 10) / 10 / 10) / 10 / 10))) (D d2_101) rfl (ng_ng (by omega)) ?_
      refine go_tabT 103 G (n := ((((mag p) / 10 / 10) / 10 / 10) / 10 / 10)) (v := (dch (((((mag p) / 10 / 10) / 10 / 10) / 10 / 10) / 10))) (by omega) (by unfold dch; congr 1 <;> omega) (D d2_102) rfl ?_
      refine go_stT 104 (i := n0 + 0) (x' := (dch (((((mag p) / 10 / 10) / 10 / 10) / 10 / 10) / 10))) rfl A508 p4 (by simp only [List.length_cons, List.length_nil] <;> omega) (by omega) p1 (dch_i8 _) (D d2_103) rfl (fun h510 W511 A512 => ?_)
      refine go_iload 106 (D d2_104) rfl rfl ?_
      refine go_ifT 118 (D d2_106) (by decide) rfl (by decide) ?_
      refine go_iload 120 (D d2_118) rfl rfl ?_
      have K513 : Keep h0 h482 [a] := ((Keep.refl h0 [a]).wr W483 (Or.inl (by simp)))
      have K514 : Keep h0 h486 [a] := (K513.wr W487 (Or.inl (by simp)))
      have K515 : Keep h0 h490 [a] := (K514.wr W491 (Or.inl (by simp)))
      have K516 : Keep h0 h494 [a] := (K515.wr W495 (Or.inl (by simp)))
      have K517 : Keep h0 h498 [a] := (K516.wr W499 (Or.inl (by simp)))
      have K518 : Keep h0 h502 [a] := (K517.wr W503 (Or.inl (by simp)))
      have K519 : Keep h0 h506 [a] := (K518.wr W507 (Or.inl (by simp)))
      have K520 : Keep h0 h510 [a] := (K519.wr W511 (Or.inl (by simp)))
      refine go_ireturn hret hlk rfl (by simp) (D d2_120) (by decide) (by decide) ⟨_, rfl, ⟨(Int32.ofNat (n0 + 0)), rfl, ((show tk L (n0 + 0) [(.int (dch (((((mag p) / 10 / 10) / 10 / 10) / 10 / 10) / 10))), (.int (dch ((((mag p) / 10 / 10) / 10 / 10) / 10 / 10))), (.int (dch ((((mag p) / 10 / 10) / 10 / 10) / 10))), (.int (dch (((mag p) / 10 / 10) / 10 / 10))), (.int (dch (((mag p) / 10 / 10) / 10))), (.int (dch ((mag p) / 10 / 10))), (.int (dch ((mag p) / 10))), (.int (dch (mag p)))] (n0 + 8) = tk L n0 ((rep p).map Value.int) (n0 + (rep p).length) from by rw [n480, rep_p cz1 n330]; rfl) ▸ A512)⟩⟩ K520
    · have n521 : (rep p).length = 9 := rl_p cz1 n330 rfl
      refine go_eqf (g' := mkF m_ 22 #[.val (.int (ng (mag p))), .val (.int (Int32.ofNat (n0 + (rep p).length))), .val (.ref a), .unset, .unset, .val (.int (Int32.ofNat (n0 + 9))), .val (.int 0)] []) (by rw [← ng_pos cz1, n521]) ?_
      have A522 : Arv Z h0 a k .byte (16 : Int32) (tk L (n0 + 9) [] (n0 + 9)) (.int 0) := by rw [tk_start]; exact p5
      refine go_iload_n 23 (D d2_22) rfl rfl ?_
      refine go_bipush 25 (v := (-100)) (D d2_23) rfl rfl ?_
      refine go_icF 28 (D d2_25) rfl (XT.ii_gt_f (fun z => absurd ((ng_le (k := 100) (by have := mag_le p; omega) (by decide) (by decide)).mp z) (by omega))) ?_
      refine go_iload_n 29 (D d2_28) rfl rfl ?_
      refine go_bipush 31 (v := 100) (D d2_29) rfl rfl ?_
      refine go_idiv 32 (z := (ng ((mag p) / 10 / 10))) (D d2_31) rfl (by decide) (ng_div2 (by have := mag_le p; omega)) ?_
      refine go_istore_n 33 (ls' := #[vi (ng (mag p)), vi (Int32.ofNat (n0 + (rep p).length)), vr a, vi (ng ((mag p) / 10 / 10)), un, vi (Int32.ofNat (n0 + 9)), vi 0]) (D d2_32) rfl rfl ?_
      refine go_iload_n 34 (D d2_33) rfl rfl ?_
      refine go_bipush 36 (v := 100) (D d2_34) rfl rfl ?_
      refine go_imul 37 (z := ((ng ((mag p) / 10 / 10)) * (100 : Int32))) (D d2_36) rfl rfl ?_
      refine go_iload_n 38 (D d2_37) rfl rfl ?_
      refine go_isub 39 (z := (Int32.ofNat ((mag p) % 100))) (D d2_38) rfl (ng_rem2 (by have := mag_le p; omega)) ?_
      refine go_istore 41 (ls' := #[vi (ng (mag p)), vi (Int32.ofNat (n0 + (rep p).length)), vr a, vi (ng ((mag p) / 10 / 10)), vi (Int32.ofNat ((mag p) % 100)), vi (Int32.ofNat (n0 + 9)), vi 0]) (D d2_39) rfl rfl ?_
      refine go_iload_n 42 (D d2_41) rfl rfl ?_
      refine go_istore_n 43 (ls' := #[vi (ng ((mag p) / 10 / 10)), vi (Int32.ofNat (n0 + (rep p).length)), vr a, vi (ng ((mag p) / 10 / 10)), vi (Int32.ofNat ((mag p) % 100)), vi (Int32.ofNat (n0 + 9)), vi 0]) (D d2_42) rfl rfl ?_
      refine go_aload_n 44 (D d2_43) rfl rfl rfl ?_
      refine go_iinc 47 (ls' := #[vi (ng ((mag p) / 10 / 10)), vi (Int32.ofNat (n0 + (rep p).length)), vr a, vi (ng ((mag p) / 10 / 10)), vi (Int32.ofNat ((mag p) % 100)), vi (Int32.ofNat (n0 + 8)), vi 0]) (y := (Int32.ofNat (n0 + 8))) (D d2_44) rfl rfl (ofn_dec (n := n0 + 8) (by omega)) rfl ?_
      refine go_iload 49 (D d2_47) rfl rfl ?_
      refine go_getS 52 (wk G 136) ((st_DO G).ext O0.2) (D d2_49) rfl ?_
      refine go_iload 54 (D d2_52) rfl rfl ?_
      refine go_tabO 55 G (n := (mag p) % 100) (v := (dch (mag p))) (by omega) (by unfold dch; congr 1 <;> omega) (D d2_54) rfl ?_
      refine go_stT 56 (i := n0 + 8) (x' := (dch (mag p))) rfl A522 p4 (by simp only [List.length_cons, List.length_nil] <;> omega) (by omega) p1 (dch_i8 _) (D d2_55) rfl (fun h523 W524 A525 => ?_)
      refine go_aload_n 57 (D d2_56) rfl rfl rfl ?_
      refine go_iinc 60 (ls' := #[vi (ng ((mag p) / 10 / 10)), vi (Int32.ofNat (n0 + (rep p).length)), vr a, vi (ng ((mag p) / 10 / 10)), vi (Int32.ofNat ((mag p) % 100)), vi (Int32.ofNat (n0 + 7)), vi 0]) (y := (Int32.ofNat (n0 + 7))) (D d2_57) rfl rfl (ofn_dec (n := n0 + 7) (by omega)) rfl ?_
      refine go_iload 62 (D d2_60) rfl rfl ?_
      refine go_old (fun O526 => ?_)
      refine go_getS 65 (wk G 221) ((st_DT G).ext O526.2) (D d2_62) rfl ?_
      refine go_iload 67 (D d2_65) rfl rfl ?_
      refine go_tabT 68 G (n := (mag p) % 100) (v := (dch ((mag p) / 10))) (by omega) (by unfold dch; congr 1 <;> omega) (D d2_67) rfl ?_
      refine go_stT 69 (i := n0 + 7) (x' := (dch ((mag p) / 10))) rfl A525 p4 (by simp only [List.length_cons, List.length_nil] <;> omega) (by omega) p1 (dch_i8 _) (D d2_68) rfl (fun h527 W528 A529 => ?_)
      refine go_goto 22 (D d2_69) (by decide) rfl ?_
      refine go_iload_n 23 (D d2_22) rfl rfl ?_
      refine go_bipush 25 (v := (-100)) (D d2_23) rfl rfl ?_
      refine go_icF 28 (D d2_25) rfl (XT.ii_gt_f (fun z => absurd ((ng_le (k := 100) (by have := mag_le p; omega) (by decide) (by decide)).mp z) (by omega))) ?_
      refine go_iload_n 29 (D d2_28) rfl rfl ?_
      refine go_bipush 31 (v := 100) (D d2_29) rfl rfl ?_
      refine go_idiv 32 (z := (ng (((mag p) / 10 / 10) / 10 / 10))) (D d2_31) rfl (by decide) (ng_div2 (by have := mag_le p; omega)) ?_
      refine go_istore_n 33 (ls' := #[vi (ng ((mag p) / 10 / 10)), vi (Int32.ofNat (n0 + (rep p).length)), vr a, vi (ng (((mag p) / 10 / 10) / 10 / 10)), vi (Int32.ofNat ((mag p) % 100)), vi (Int32.ofNat (n0 + 7)), vi 0]) (D d2_32) rfl rfl ?_
      refine go_iload_n 34 (D d2_33) rfl rfl ?_
      refine go_bipush 36 (v := 100) (D d2_34) rfl rfl ?_
      refine go_imul 37 (z := ((ng (((mag p) / 10 / 10) / 10 / 10)) * (100 : Int32))) (D d2_36) rfl rfl ?_
      refine go_iload_n 38 (D d2_37) rfl rfl ?_
      refine go_isub 39 (z := (Int32.ofNat (((mag p) / 10 / 10) % 100))) (D d2_38) rfl (ng_rem2 (by have := mag_le p; omega)) ?_
      refine go_istore 41 (ls' := #[vi (ng ((mag p) / 10 / 10)), vi (Int32.ofNat (n0 + (rep p).length)), vr a, vi (ng (((mag p) / 10 / 10) / 10 / 10)), vi (Int32.ofNat (((mag p) / 10 / 10) % 100)), vi (Int32.ofNat (n0 + 7)), vi 0]) (D d2_39) rfl rfl ?_
      refine go_iload_n 42 (D d2_41) rfl rfl ?_
      refine go_istore_n 43 (ls' := #[vi (ng (((mag p) / 10 / 10) / 10 / 10)), vi (Int32.ofNat (n0 + (rep p).length)), vr a, vi (ng (((mag p) / 10 / 10) / 10 / 10)), vi (Int32.ofNat (((mag p) / 10 / 10) % 100)), vi (Int32.ofNat (n0 + 7)), vi 0]) (D d2_42) rfl rfl ?_
      refine go_aload_n 44 (D d2_43) rfl rfl rfl ?_
      refine go_iinc 47 (ls' := #[vi (ng (((mag p) / 10 / 10) / 10 / 10)), vi (Int32.ofNat (n0 + (rep p).length)), vr a, vi (ng (((mag p) / 10 / 10) / 10 / 10)), vi (Int32.ofNat (((mag p) / 10 / 10) % 100)), vi (Int32.ofNat (n0 + 6)), vi 0]) (y := (Int32.ofNat (n0 + 6))) (D d2_44) rfl rfl (ofn_dec (n := n0 + 6) (by omega)) rfl ?_
      refine go_iload 49 (D d2_47) rfl rfl ?_
      refine go_old (fun O530 => ?_)
      refine go_getS 52 (wk G 136) ((st_DO G).ext O530.2) (D d2_49) rfl ?_
      refine go_iload 54 (D d2_52) rfl rfl ?_
      refine go_tabO 55 G (n := ((mag p) / 10 / 10) % 100) (v := (dch ((mag p) / 10 / 10))) (by omega) (by unfold dch; congr 1 <;> omega) (D d2_54) rfl ?_
      refine go_stT 56 (i := n0 + 6) (x' := (dch ((mag p) / 10 / 10))) rfl A529 p4 (by simp only [List.length_cons, List.length_nil] <;> omega) (by omega) p1 (dch_i8 _) (D d2_55) rfl (fun h531 W532 A533 => ?_)
      refine go_aload_n 57 (D d2_56) rfl rfl rfl ?_
      refine go_iinc 60 (ls' := #[vi (ng (((mag p) / 10 / 10) / 10 / 10)), vi (Int32.ofNat (n0 + (rep p).length)), vr a, vi (ng (((mag p) / 10 / 10) / 10 / 10)), vi (Int32.ofNat (((mag p) / 10 / 10) % 100)), vi (Int32.ofNat (n0 + 5)), vi 0]) (y := (Int32.ofNat (n0 + 5))) (D d2_57) rfl rfl (ofn_dec (n := n0 + 5) (by omega)) rfl ?_
      refine go_iload 62 (D d2_60) rfl rfl ?_
      refine go_old (fun O534 => ?_)
      refine go_getS 65 (wk G 221) ((st_DT G).ext O534.2) (D d2_62) rfl ?_
      refine go_iload 67 (D d2_65) rfl rfl ?_
      refine go_tabT 68 G (n := ((mag p) / 10 / 10) % 100) (v := (dch (((mag p) / 10 / 10) / 10))) (by omega) (by unfold dch; congr 1 <;> omega) (D d2_67) rfl ?_
      refine go_stT 69 (i := n0 + 5) (x' := (dch (((mag p) / 10 / 10) / 10))) rfl A533 p4 (by simp only [List.length_cons, List.length_nil] <;> omega) (by omega) p1 (dch_i8 _) (D d2_68) rfl (fun h535 W536 A537 => ?_)
      refine go_goto 22 (D d2_69) (by decide) rfl ?_
      refine go_iload_n 23 (D d2_22) rfl rfl ?_
      refine go_bipush 25 (v := (-100)) (D d2_23) rfl rfl ?_
      refine go_icF 28 (D d2_25) rfl (XT.ii_gt_f (fun z => absurd ((ng_le (k := 100) (by have := mag_le p; omega) (by decide) (by decide)).mp z) (by omega))) ?_
      refine go_iload_n 29 (D d2_28) rfl rfl ?_
      refine go_bipush 31 (v := 100) (D d2_29) rfl rfl ?_
      refine go_idiv 32 (z := (ng ((((mag p) / 10 / 10) / 10 / 10) / 10 / 10))) (D d2_31) rfl (by decide) (ng_div2 (by have := mag_le p; omega)) ?_
      refine go_istore_n 33 (ls' := #[vi (ng (((mag p) / 10 / 10) / 10 / 10)), vi (Int32.ofNat (n0 + (rep p).length)), vr a, vi (ng ((((mag p) / 10 / 10) / 10 / 10) / 10 / 10)), vi (Int32.ofNat (((mag p) / 10 / 10) % 100)), vi (Int32.ofNat (n0 + 5)), vi 0]) (D d2_32) rfl rfl ?_
      refine go_iload_n 34 (D d2_33) rfl rfl ?_
      refine go_bipush 36 (v := 100) (D d2_34) rfl rfl ?_
      refine go_imul 37 (z := ((ng ((((mag p) / 10 / 10) / 10 / 10) / 10 / 10)) * (100 : Int32))) (D d2_36) rfl rfl ?_
      refine go_iload_n 38 (D d2_37) rfl rfl ?_
      refine go_isub 39 (z := (Int32.ofNat ((((mag p) / 10 / 10) / 10 / 10) % 100))) (D d2_38) rfl (ng_rem2 (by have := mag_le p; omega)) ?_
      refine go_istore 41 (ls' := #[vi (ng (((mag p) / 10 / 10) / 10 / 10)), vi (Int32.ofNat (n0 + (rep p).length)), vr a, vi (ng ((((mag p) / 10 / 10) / 10 / 10) / 10 / 10)), vi (Int32.ofNat ((((mag p) / 10 / 10) / 10 / 10) % 100)), vi (Int32.ofNat (n0 + 5)), vi 0]) (D d2_39) rfl rfl ?_
      refine go_iload_n 42 (D d2_41) rfl rfl ?_
      refine go_istore_n 43 (ls' := #[vi (ng ((((mag p) / 10 / 10) / 10 / 10) / 10 / 10)), vi (Int32.ofNat (n0 + (rep p).length)), vr a, vi (ng ((((mag p) / 10 / 10) / 10 / 10) / 10 / 10)), vi (Int32.ofNat ((((mag p) / 10 / 10) / 10 / 10) % 100)), vi (Int32.ofNat (n0 + 5)), vi 0]) (D d2_42) rfl rfl ?_
      refine go_aload_n 44 (D d2_43) rfl rfl rfl ?_
      refine go_iinc 47 (ls' := #[vi (ng ((((mag p) / 10 / 10) / 10 / 10) / 10 / 10)), vi (Int32.ofNat (n0 + (rep p).length)), vr a, vi (ng ((((mag p) / 10 / 10) / 10 / 10) / 10 / 10)), vi (Int32.ofNat ((((mag p) / 10 / 10) / 10 / 10) % 100)), vi (Int32.ofNat (n0 + 4)), vi 0]) (y := (Int32.ofNat (n0 + 4))) (D d2_44) rfl rfl (ofn_dec (n := n0 + 4) (by omega)) rfl ?_
      refine go_iload 49 (D d2_47) rfl rfl ?_
      refine go_old (fun O538 => ?_)
      refine go_getS 52 (wk G 136) ((st_DO G).ext O538.2) (D d2_49) rfl ?_
      refine go_iload 54 (D d2_52) rfl rfl ?_
      refine go_tabO 55 G (n := (((mag p) / 10 / 10) / 10 / 10) % 100) (v := (dch (((mag p) / 10 / 10) / 10 / 10))) (by omega) (by unfold dch; congr 1 <;> omega) (D d2_54) rfl ?_
      refine go_stT 56 (i := n0 + 4) (x' := (dch (((mag p) / 10 / 10) / 10 / 10))) rfl A537 p4 (by simp only [List.length_cons, List.length_nil] <;> omega) (by omega) p1 (dch_i8 _) (D d2_55) rfl (fun h539 W540 A541 => ?_)
      refine go_aload_n 57 (D d2_56) rfl rfl rfl ?_
      refine go_iinc 60 (ls' := #[vi (ng ((((mag p) / 10 / 10) / 10 / 10) / 10 / 10)), vi (Int32.ofNat (n0 + (rep p).length)), vr a, vi (ng ((((mag p) / 10 / 10) / 10 / 10) / 10 / 10)), vi (Int32.ofNat ((((mag p) / 10 / 10) / 10 / 10) % 100)), vi (Int32.ofNat (n0 + 3)), vi 0]) (y := (Int32.ofNat (n0 + 3))) (D d2_57) rfl rfl (ofn_dec (n := n0 + 3) (by omega)) rfl ?_
      refine go_iload 62 (D d2_60) rfl rfl ?_
      refine go_old (fun O542 => ?_)
      refine go_getS 65 (wk G 221) ((st_DT G).ext O542.2) (D d2_62) rfl ?_
      refine go_iload 67 (D d2_65) rfl rfl ?_
      refine go_tabT 68 G (n := (((mag p) / 10 / 10) / 10 / 10) % 100) (v := (dch ((((mag p) / 10 / 10) / 10 / 10) / 10))) (by omega) (by unfold dch; congr 1 <;> omega) (D d2_67) rfl ?_
      refine go_stT 69 (i := n0 + 3) (x' := (dch ((((mag p) / 10 / 10) / 10 / 10) / 10))) rfl A541 p4 (by simp only [List.length_cons, List.length_nil] <;> omega) (by omega) p1 (dch_i8 _) (D d2_68) rfl (fun h543 W544 A545 => ?_)
      refine go_goto 22 (D d2_69) (by decide) rfl ?_
      refine go_iload_n 23 (D d2_22) rfl rfl ?_
      refine go_bipush 25 (v := (-100)) (D d2_23) rfl rfl ?_
      refine go_icF 28 (D d2_25) rfl (XT.ii_gt_f (fun z => absurd ((ng_le (k := 100) (by have := mag_le p; omega) (by decide) (by decide)).mp z) (by omega))) ?_
      refine go_iload_n 29 (D d2_28) rfl rfl ?_
      refine go_bipush 31 (v := 100) (D d2_29) rfl rfl ?_
      refine go_idiv 32 (z := (ng (((((mag p) / 10 / 10) / 10 / 10) / 10 / 10) / 10 / 10))) (D d2_31) rfl (by decide) (ng_div2 (by have := mag_le p; omega)) ?_
      refine go_istore_n 33 (ls' := #[vi (ng ((((mag p) / 10 / 10) / 10 / 10) / 10 / 10)), vi (Int32.ofNat (n0 + (rep p).length)), vr a, vi (ng (((((mag p) / 10 / 10) / 10 / 10) / 10 / 10) / 10 / 10)), vi (Int32.ofNat ((((mag p) / 10 / 10) / 10 / 10) % 100)), vi (Int32.ofNat (n0 + 3)), vi 0]) (D d2_32) rfl rfl ?_
      refine go_iload_n 34 (D d2_33) rfl rfl ?_
      refine go_bipush 36 (v := 100) (D d2_34) rfl rfl ?_
      refine go_imul 37 (z := ((ng (((((mag p) / 10 / 10) / 10 / 10) / 10 / 10) / 10 / 10)) * (100 : Int32))) (D d2_36) rfl rfl ?_
      refine go_iload_n 38 (D d2_37) rfl rfl ?_
      refine go_isub 39 (z := (Int32.ofNat (((((mag p) / 10 / 10) / 10 / 10) / 10 / 10) % 100))) (D d2_38) rfl (ng_rem2 (by have := mag_le p; omega)) ?_
      refine go_istore 41 (ls' := #[vi (ng ((((mag p) / 10 / 10) / 10 / 10) / 10 / 10)), vi (Int32.ofNat (n0 + (rep p).length)), vr a, vi (ng (((((mag p) / 10 / 10) / 10 / 10) / 10 / 10) / 10 / 10)), vi (Int32.ofNat (((((mag p) / 10 / 10) / 10 / 10) / 10 / 10) % 100)), vi (Int32.ofNat (n0 + 3)), vi 0]) (D d2_39) rfl rfl ?_
      refine go_iload_n 42 (D d2_41) rfl rfl ?_
      refine go_istore_n 43 (ls' := #[vi (ng (((((mag p) / 10 / 10) / 10 / 10) / 10 / 10) / 10 / 10)), vi (Int32.ofNat (n0 + (rep p).length)), vr a, vi (ng (((((mag p) / 10 / 10) / 10 / 10) / 10 / 10) / 10 / 10)), vi (Int32.ofNat (((((mag p) / 10 / 10) / 10 / 10) / 10 / 10) % 100)), vi (Int32.ofNat (n0 + 3)), vi 0]) (D d2_42) rfl rfl ?_
      refine go_aload_n 44 (D d2_43) rfl rfl rfl ?_
      refine go_iinc 47 (ls' := #[vi (ng (((((mag p) / 10 / 10) / 10 / 10) / 10 / 10) / 10 / 10)), vi (Int32.ofNat (n0 + (rep p).length)), vr a, vi (ng (((((mag p) / 10 / 10) / 10 / 10) / 10 / 10) / 10 / 10)), vi (Int32.ofNat (((((mag p) / 10 / 10) / 10 / 10) / 10 / 10) % 100)), vi (Int32.ofNat (n0 + 2)), vi 0]) (y := (Int32.ofNat (n0 + 2))) (D d2_44) rfl rfl (ofn_dec (n := n0 + 2) (by omega)) rfl ?_
      refine go_iload 49 (D d2_47) rfl rfl ?_
      refine go_old (fun O546 => ?_)
      refine go_getS 52 (wk G 136) ((st_DO G).ext O546.2) (D d2_49) rfl ?_
      refine go_iload 54 (D d2_52) rfl rfl ?_
      refine go_tabO 55 G (n := ((((mag p) / 10 / 10) / 10 / 10) / 10 / 10) % 100) (v := (dch ((((mag p) / 10 / 10) / 10 / 10) / 10 / 10))) (by omega) (by unfold dch; congr 1 <;> omega) (D d2_54) rfl ?_
      refine go_stT 56 (i := n0 + 2) (x' := (dch ((((mag p) / 10 / 10) / 10 / 10) / 10 / 10))) rfl A545 p4 (by simp only [List.length_cons, List.length_nil] <;> omega) (by omega) p1 (dch_i8 _) (D d2_55) rfl (fun h547 W548 A549 => ?_)
      refine go_aload_n 57 (D d2_56) rfl rfl rfl ?_
      refine go_iinc 60 (ls' := #[vi (ng (((((mag p) / 10 / 10) / 10 / 10) / 10 / 10) / 10 / 10)), vi (Int32.ofNat (n0 + (rep p).length)), vr a, vi (ng (((((mag p) / 10 / 10) / 10 / 10) / 10 / 10) / 10 / 10)), vi (Int32.ofNat (((((mag p) / 10 / 10) / 10 / 10) / 10 / 10) % 100)), vi (Int32.ofNat (n0 + 1)), vi 0]) (y := (Int32.ofNat (n0 + 1))) (D d2_57) rfl rfl (ofn_dec (n := n0 + 1) (by omega)) rfl ?_
      refine go_iload 62 (D d2_60) rfl rfl ?_
      refine go_old (fun O550 => ?_)
      refine go_getS 65 (wk G 221) ((st_DT G).ext O550.2) (D d2_62) rfl ?_
      refine go_iload 67 (D d2_65) rfl rfl ?_
      refine go_tabT 68 G (n := ((((mag p) / 10 / 10) / 10 / 10) / 10 / 10) % 100) (v := (dch (((((mag p) / 10 / 10) / 10 / 10) / 10 / 10) / 10))) (by omega) (by unfold dch; congr 1 <;> omega) (D d2_67) rfl ?_
      refine go_stT 69 (i := n0 + 1) (x' := (dch (((((mag p) / 10 / 10) / 10 / 10) / 10 / 10) / 10))) rfl A549 p4 (by simp only [List.length_cons, List.length_nil] <;> omega) (by omega) p1 (dch_i8 _) (D d2_68) rfl (fun h551 W552 A553 => ?_)
      refine go_goto 22 (D d2_69) (by decide) rfl ?_
      refine go_iload_n 23 (D d2_22) rfl rfl ?_
      refine go_bipush 25 (v := (-100)) (D d2_23) rfl rfl ?_
      refine go_icT 72 (D d2_25) (by decide) rfl (XT.ii_gt_t ((ng_le (k := 100) (by have := mag_le p; omega) (by decide) (by decide)).mpr (by omega))) ?_
      refine go_aload_n 73 (D d2_72) rfl rfl rfl ?_
      refine go_iinc 76 (ls' := #[vi (ng (((((mag p) / 10 / 10) / 10 / 10) / 10 / 10) / 10 / 10)), vi (Int32.ofNat (n0 + (rep p).length)), vr a, vi (ng (((((mag p) / 10 / 10) / 10 / 10) / 10 / 10) / 10 / 10)), vi (Int32.ofNat (((((mag p) / 10 / 10) / 10 / 10) / 10 / 10) % 100)), vi (Int32.ofNat (n0 + 0)), vi 0]) (y := (Int32.ofNat (n0 + 0))) (D d2_73) rfl rfl (ofn_dec (n := n0 + 0) (by omega)) rfl ?_
      refine go_iload 78 (D d2_76) rfl rfl ?_
      refine go_old (fun O554 => ?_)
      refine go_getS 81 (wk G 136) ((st_DO G).ext O554.2) (D d2_78) rfl ?_
      refine go_iload_n 82 (D d2_81) rfl rfl ?_
      refine go_ineg 83 (z := (Int32.ofNat (((((mag p) / 10 / 10) / 10 / 10) / 10 / 10) / 10 / 10))) (D d2_82) rfl (ng_ng (by omega)) ?_
      refine go_tabO 84 G (n := (((((mag p) / 10 / 10) / 10 / 10) / 10 / 10) / 10 / 10)) (v := (dch (((((mag p) / 10 / 10) / 10 / 10) / 10 / 10) / 10 / 10))) (by omega) (by unfold dch; congr 1 <;> omega) (D d2_83) rfl ?_
      refine go_stT 85 (i := n0 + 0) (x' := (dch (((((mag p) / 10 / 10) / 10 / 10) / 10 / 10) / 10 / 10))) rfl A553 p4 (by simp only [List.length_cons, List.length_nil] <;> omega) (by omega) p1 (dch_i8 _) (D d2_84) rfl (fun h555 W556 A557 => ?_)
      refine go_iload_n 86 (D d2_85) rfl rfl ?_
      refine go_bipush 88 (v := (-9)) (D d2_86) rfl rfl ?_
      refine go_icT 104 (D d2_88) (by decide) rfl (XT.ii_ge_t (fun z => absurd ((ng_lt (k := 9) (by have := mag_le p; omega) (by decide) (by decide)).mp z) (by omega))) ?_
      refine go_iload 106 (D d2_104) rfl rfl ?_
      refine go_ifT 118 (D d2_106) (by decide) rfl (by decide) ?_
      refine go_iload 120 (D d2_118) rfl rfl ?_
      have K558 : Keep h0 h523 [a] := ((Keep.refl h0 [a]).wr W524 (Or.inl (by simp)))
      have K559 : Keep h0 h527 [a] := (K558.wr W528 (Or.inl (by simp)))
      have K560 : Keep h0 h531 [a] := (K559.wr W532 (Or.inl (by simp)))
      have K561 : Keep h0 h535 [a] := (K560.wr W536 (Or.inl (by simp)))
      have K562 : Keep h0 h539 [a] := (K561.wr W540 (Or.inl (by simp)))
      have K563 : Keep h0 h543 [a] := (K562.wr W544 (Or.inl (by simp)))
      have K564 : Keep h0 h547 [a] := (K563.wr W548 (Or.inl (by simp)))
      have K565 : Keep h0 h551 [a] := (K564.wr W552 (Or.inl (by simp)))
      have K566 : Keep h0 h555 [a] := (K565.wr W556 (Or.inl (by simp)))
      refine go_ireturn hret hlk rfl (by simp) (D d2_120) (by decide) (by decide) ⟨_, rfl, ⟨(Int32.ofNat (n0 + 0)), rfl, ((show tk L (n0 + 0) [(.int (dch (((((mag p) / 10 / 10) / 10 / 10) / 10 / 10) / 10 / 10))), (.int (dch (((((mag p) / 10 / 10) / 10 / 10) / 10 / 10) / 10))), (.int (dch ((((mag p) / 10 / 10) / 10 / 10) / 10 / 10))), (.int (dch ((((mag p) / 10 / 10) / 10 / 10) / 10))), (.int (dch (((mag p) / 10 / 10) / 10 / 10))), (.int (dch (((mag p) / 10 / 10) / 10))), (.int (dch ((mag p) / 10 / 10))), (.int (dch ((mag p) / 10))), (.int (dch (mag p)))] (n0 + 9) = tk L n0 ((rep p).map Value.int) (n0 + (rep p).length) from by rw [n521, rep_p cz1 n330]; rfl) ▸ A557)⟩⟩ K566
    · have n567 : (rep p).length = 10 := rl_p cz1 n330 rfl
      have n332 := mag_le p
      refine go_eqf (g' := mkF m_ 22 #[.val (.int (ng (mag p))), .val (.int (Int32.ofNat (n0 + (rep p).length))), .val (.ref a), .unset, .unset, .val (.int (Int32.ofNat (n0 + 10))), .val (.int 0)] []) (by rw [← ng_pos cz1, n567]) ?_
      have A568 : Arv Z h0 a k .byte (16 : Int32) (tk L (n0 + 10) [] (n0 + 10)) (.int 0) := by rw [tk_start]; exact p5
      refine go_iload_n 23 (D d2_22) rfl rfl ?_
      refine go_bipush 25 (v := (-100)) (D d2_23) rfl rfl ?_
      refine go_icF 28 (D d2_25) rfl (XT.ii_gt_f (fun z => absurd ((ng_le (k := 100) (by have := mag_le p; omega) (by decide) (by decide)).mp z) (by omega))) ?_
      refine go_iload_n 29 (D d2_28) rfl rfl ?_
      refine go_bipush 31 (v := 100) (D d2_29) rfl rfl ?_
      refine go_idiv 32 (z := (ng ((mag p) / 10 / 10))) (D d2_31) rfl (by decide) (ng_div2 (by have := mag_le p; omega)) ?_
      refine go_istore_n 33 (ls' := #[vi (ng (mag p)), vi (Int32.ofNat (n0 + (rep p).length)), vr a, vi (ng ((mag p) / 10 / 10)), un, vi (Int32.ofNat (n0 + 10)), vi 0]) (D d2_32) rfl rfl ?_
      refine go_iload_n 34 (D d2_33) rfl rfl ?_
      refine go_bipush 36 (v := 100) (D d2_34) rfl rfl ?_
      refine go_imul 37 (z := ((ng ((mag p) / 10 / 10)) * (100 : Int32))) (D d2_36) rfl rfl ?_
      refine go_iload_n 38 (D d2_37) rfl rfl ?_
      refine go_isub 39 (z := (Int32.ofNat ((mag p) % 100))) (D d2_38) rfl (ng_rem2 (by have := mag_le p; omega)) ?_
      refine go_istore 41 (ls' := #[vi (ng (mag p)), vi (Int32.ofNat (n0 + (rep p).length)), vr a, vi (ng ((mag p) / 10 / 10)), vi (Int32.ofNat ((mag p) % 100)), vi (Int32.ofNat (n0 + 10)), vi 0]) (D d2_39) rfl rfl ?_
      refine go_iload_n 42 (D d2_41) rfl rfl ?_
      refine go_istore_n 43 (ls' := #[vi (ng ((mag p) / 10 / 10)), vi (Int32.ofNat (n0 + (rep p).length)), vr a, vi (ng ((mag p) / 10 / 10)), vi (Int32.ofNat ((mag p) % 100)), vi (Int32.ofNat (n0 + 10)), vi 0]) (D d2_42) rfl rfl ?_
      refine go_aload_n 44 (D d2_43) rfl rfl rfl ?_
      refine go_iinc 47 (ls' := #[vi (ng ((mag p) / 10 / 10)), vi (Int32.ofNat (n0 + (rep p).length)), vr a, vi (ng ((mag p) / 10 / 10)), vi (Int32.ofNat ((mag p) % 100)), vi (Int32.ofNat (n0 + 9)), vi 0]) (y := (Int32.ofNat (n0 + 9))) (D d2_44) rfl rfl (ofn_dec (n := n0 + 9) (by omega)) rfl ?_
      refine go_iload 49 (D d2_47) rfl rfl ?_
      refine go_getS 52 (wk G 136) ((st_DO G).ext O0.2) (D d2_49) rfl ?_
      refine go_iload 54 (D d2_52) rfl rfl ?_
      refine go_tabO 55 G (n := (mag p) % 100) (v := (dch (mag p))) (by omega) (by unfold dch; congr 1 <;> omega) (D d2_54) rfl ?_
      refine go_stT 56 (i := n0 + 9) (x' := (dch (mag p))) rfl A568 p4 (by simp only [List.length_cons, List.length_nil] <;> omega) (by omega) p1 (dch_i8 _) (D d2_55) rfl (fun h569 W570 A571 => ?_)
      refine go_aload_n 57 (D d2_56) rfl rfl rfl ?_
      refine go_iinc 60 (ls' := #[vi (ng ((mag p) / 10 / 10)), vi (Int32.ofNat (n0 + (rep p).length)), vr a, vi (ng ((mag p) / 10 / 10)), vi (Int32.ofNat ((mag p) % 100)), vi (Int32.ofNat (n0 + 8)), vi 0]) (y := (Int32.ofNat (n0 + 8))) (D d2_57) rfl rfl (ofn_dec (n := n0 + 8) (by omega)) rfl ?_
      refine go_iload 62 (D d2_60) rfl rfl ?_
      refine go_old (fun O572 => ?_)
      refine go_getS 65 (wk G 221) ((st_DT G).ext O572.2) (D d2_62) rfl ?_
      refine go_iload 67 (D d2_65) rfl rfl ?_
      refine go_tabT 68 G (n := (mag p) % 100) (v := (dch ((mag p) / 10))) (by omega) (by unfold dch; congr 1 <;> omega) (D d2_67) rfl ?_
      refine go_stT 69 (i := n0 + 8) (x' := (dch ((mag p) / 10))) rfl A571 p4 (by simp only [List.length_cons, List.length_nil] <;> omega) (by omega) p1 (dch_i8 _) (D d2_68) rfl (fun h573 W574 A575 => ?_)
      refine go_goto 22 (D d2_69) (by decide) rfl ?_
      refine go_iload_n 23 (D d2_22) rfl rfl ?_
      refine go_bipush 25 (v := (-100)) (D d2_23) rfl rfl ?_
      refine go_icF 28 (D d2_25) rfl (XT.ii_gt_f (fun z => absurd ((ng_le (k := 100) (by have := mag_le p; omega) (by decide) (by decide)).mp z) (by omega))) ?_
      refine go_iload_n 29 (D d2_28) rfl rfl ?_
      refine go_bipush 31 (v := 100) (D d2_29) rfl rfl ?_
      refine go_idiv 32 (z := (ng (((mag p) / 10 / 10) / 10 / 10))) (D d2_31) rfl (by decide) (ng_div2 (by have := mag_le p; omega)) ?_
      refine go_istore_n 33 (ls' := #[vi (ng ((mag p) / 10 / 10)), vi (Int32.ofNat (n0 + (rep p).length)), vr a, vi (ng (((mag p) / 10 / 10) / 10 / 10)), vi (Int32.ofNat ((mag p) % 100)), vi (Int32.ofNat (n0 + 8)), vi 0]) (D d2_32) rfl rfl ?_
      refine go_iload_n 34 (D d2_33) rfl rfl ?_
      refine go_bipush 36 (v := 100) (D d2_34) rfl rfl ?_
      refine go_imul 37 (z := ((ng (((mag p) / 10 / 10) / 10 / 10)) * (100 : Int32))) (D d2_36) rfl rfl ?_
      refine go_iload_n 38 (D d2_37) rfl rfl ?_
      refine go_isub 39 (z := (Int32.ofNat (((mag p) / 10 / 10) % 100))) (D d2_38) rfl (ng_rem2 (by have := mag_le p; omega)) ?_
      refine go_istore 41 (ls' := #[vi (ng ((mag p) / 10 / 10)), vi (Int32.ofNat (n0 + (rep p).length)), vr a, vi (ng (((mag p) / 10 / 10) / 10 / 10)), vi (Int32.ofNat (((mag p) / 10 / 10) % 100)), vi (Int32.ofNat (n0 + 8)), vi 0]) (D d2_39) rfl rfl ?_
      refine go_iload_n 42 (D d2_41) rfl rfl ?_
      refine go_istore_n 43 (ls' := #[vi (ng (((mag p) / 10 / 10) / 10 / 10)), vi (Int32.ofNat (n0 + (rep p).length)), vr a, vi (ng (((mag p) / 10 / 10) / 10 / 10)), vi (Int32.ofNat (((mag p) / 10 / 10) % 100)), vi (Int32.ofNat (n0 + 8)), vi 0]) (D d2_42) rfl rfl ?_
      refine go_aload_n 44 (D d2_43) rfl rfl rfl ?_
      refine go_iinc 47 (ls' := #[vi (ng (((mag p) / 10 / 10) / 10 / 10)), vi (Int32.ofNat (n0 + (rep p).length)), vr a, vi (ng (((mag p) / 10 / 10) / 10 / 10)), vi (Int32.ofNat (((mag p) / 10 / 10) % 100)), vi (Int32.ofNat (n0 + 7)), vi 0]) (y := (Int32.ofNat (n0 + 7))) (D d2_44) rfl rfl (ofn_dec (n := n0 + 7) (by omega)) rfl ?_
      refine go_iload 49 (D d2_47) rfl rfl ?_
      refine go_old (fun O576 => ?_)
      refine go_getS 52 (wk G 136) ((st_DO G).ext O576.2) (D d2_49) rfl ?_
      refine go_iload 54 (D d2_52) rfl rfl ?_
      refine go_tabO 55 G (n := ((mag p) / 10 / 10) % 100) (v := (dch ((mag p) / 10 / 10))) (by omega) (by unfold dch; congr 1 <;> omega) (D d2_54) rfl ?_
      refine go_stT 56 (i := n0 + 7) (x' := (dch ((mag p) / 10 / 10))) rfl A575 p4 (by simp only [List.length_cons, List.length_nil] <;> omega) (by omega) p1 (dch_i8 _) (D d2_55) rfl (fun h577 W578 A579 => ?_)
      refine go_aload_n 57 (D d2_56) rfl rfl rfl ?_
      refine go_iinc 60 (ls' := #[vi (ng (((mag p) / 10 / 10) / 10 / 10)), vi (Int32.ofNat (n0 + (rep p).length)), vr a, vi (ng (((mag p) / 10 / 10) / 10 / 10)), vi (Int32.ofNat (((mag p) / 10 / 10) % 100)), vi (Int32.ofNat (n0 + 6)), vi 0]) (y := (Int32.ofNat (n0 + 6))) (D d2_57) rfl rfl (ofn_dec (n := n0 + 6) (by omega)) rfl ?_
      refine go_iload 62 (D d2_60) rfl rfl ?_
      refine go_old (fun O580 => ?_)
      refine go_getS 65 (wk G 221) ((st_DT G).ext O580.2) (D d2_62) rfl ?_
      refine go_iload 67 (D d2_65) rfl rfl ?_
      refine go_tabT 68 G (n := ((mag p) / 10 / 10) % 100) (v := (dch (((mag p) / 10 / 10) / 10))) (by omega) (by unfold dch; congr 1 <;> omega) (D d2_67) rfl ?_
      refine go_stT 69 (i := n0 + 6) (x' := (dch (((mag p) / 10 / 10) / 10))) rfl A579 p4 (by simp only [List.length_cons, List.length_nil] <;> omega) (by omega) p1 (dch_i8 _) (D d2_68) rfl (fun h581 W582 A583 => ?_)
      refine go_goto 22 (D d2_69) (by decide) rfl ?_
      refine go_iload_n 23 (D d2_22) rfl rfl ?_
      refine go_bipush 25 (v := (-100)) (D d2_23) rfl rfl ?_
      refine go_icF 28 (D d2_25) rfl (XT.ii_gt_f (fun z => absurd ((ng_le (k := 100) (by have := mag_le p; omega) (by decide) (by decide)).mp z) (by omega))) ?_
      refine go_iload_n 29 (D d2_28) rfl rfl ?_
      refine go_bipush 31 (v := 100) (D d2_29) rfl rfl ?_
      refine go_idiv 32 (z := (ng ((((mag p) / 10 / 10) / 10 / 10) / 10 / 10))) (D d2_31) rfl (by decide) (ng_div2 (by have := mag_le p; omega)) ?_
      refine go_istore_n 33 (ls' := #[vi (ng (((mag p) / 10 / 10) / 10 / 10)), vi (Int32.ofNat (n0 + (rep p).length)), vr a, vi (ng ((((mag p) / 10 / 10) / 10 / 10) / 10 / 10)), vi (Int32.ofNat (((mag p) / 10 / 10) % 100)), vi (Int32.ofNat (n0 + 6)), vi 0]) (D d2_32) rfl rfl ?_
      refine go_iload_n 34 (D d2_33) rfl rfl ?_
      refine go_bipush 36 (v := 100) (D d2_34) rfl rfl ?_
      refine go_imul 37 (z := ((ng ((((mag p) / 10 / 10) / 10 / 10) / 10 / 10)) * (100 : Int32))) (D d2_36) rfl rfl ?_
      refine go_iload_n 38 (D d2_37) rfl rfl ?_
      refine go_isub 39 (z := (Int32.ofNat ((((mag p) / 10 / 10) / 10 / 10) % 100))) (D d2_38) rfl (ng_rem2 (by have := mag_le p; omega)) ?_
      refine go_istore 41 (ls' := #[vi (ng (((mag p) / 10 / 10) / 10 / 10)), vi (Int32.ofNat (n0 + (rep p).length)), vr a, vi (ng ((((mag p) / 10 / 10) / 10 / 10) / 10 / 10)), vi (Int32.ofNat ((((mag p) / 10 / 10) / 10 / 10) % 100)), vi (Int32.ofNat (n0 + 6)), vi 0]) (D d2_39) rfl rfl ?_
      refine go_iload_n 42 (D d2_41) rfl rfl ?_
      refine go_istore_n 43 (ls' := #[vi (ng ((((mag p) / 10 / 10) / 10 / 10) / 10 / 10)), vi (Int32.ofNat (n0 + (rep p).length)), vr a, vi (ng ((((mag p) / 10 / 10) / 10 / 10) / 10 / 10)), vi (Int32.ofNat ((((mag p) / 10 / 10) / 10 / 10) % 100)), vi (Int32.ofNat (n0 + 6)), vi 0]) (D d2_42) rfl rfl ?_
      refine go_aload_n 44 (D d2_43) rfl rfl rfl ?_
      refine go_iinc 47 (ls' := #[vi (ng ((((mag p) / 10 / 10) / 10 / 10) / 10 / 10)), vi (Int32.ofNat (n0 + (rep p).length)), vr a, vi (ng ((((mag p) / 10 / 10) / 10 / 10) / 10 / 10)), vi (Int32.ofNat ((((mag p) / 10 / 10) / 10 / 10) % 100)), vi (Int32.ofNat (n0 + 5)), vi 0]) (y := (Int32.ofNat (n0 + 5))) (D d2_44) rfl rfl (ofn_dec (n := n0 + 5) (by omega)) rfl ?_
      refine go_iload 49 (D d2_47) rfl rfl ?_
      refine go_old (fun O584 => ?_)
      refine go_getS 52 (wk G 136) ((st_DO G).ext O584.2) (D d2_49) rfl ?_
      refine go_iload 54 (D d2_52) rfl rfl ?_
      refine go_tabO 55 G (n := (((mag p) / 10 / 10) / 10 / 10) % 100) (v := (dch (((mag p) / 10 / 10) / 10 / 10))) (by omega) (by unfold dch; congr 1 <;> omega) (D d2_54) rfl ?_
      refine go_stT 56 (i := n0 + 5) (x' := (dch (((mag p) / 10 / 10) / 10 / 10))) rfl A583 p4 (by simp only [List.length_cons, List.length_nil] <;> omega) (by omega) p1 (dch_i8 _) (D d2_55) rfl (fun h585 W586 A587 => ?_)
      refine go_aload_n 57 (D d2_56) rfl rfl rfl ?_
      refine go_iinc 60 (ls' := #[vi (ng ((((mag p) / 10 / 10) / 10 / 10) / 10 / 10)), vi (Int32.ofNat (n0 + (rep p).length)), vr a, vi (ng ((((mag p) / 10 / 10) / 10 / 10) / 10 / 10)), vi (Int32.ofNat ((((mag p) / 10 / 10) / 10 / 10) % 100)), vi (Int32.ofNat (n0 + 4)), vi 0]) (y := (Int32.ofNat (n0 + 4))) (D d2_57) rfl rfl (ofn_dec (n := n0 + 4) (by omega)) rfl ?_
      refine go_iload 62 (D d2_60) rfl rfl ?_
      refine go_old (fun O588 => ?_)
      refine go_getS 65 (wk G 221) ((st_DT G).ext O588.2) (D d2_62) rfl ?_
      refine go_iload 67 (D d2_65) rfl rfl ?_
      refine go_tabT 68 G (n := (((mag p) / 10 / 10) / 10 / 10) % 100) (v := (dch ((((mag p) / 10 / 10) / 10 / 10) / 10))) (by omega) (by unfold dch; congr 1 <;> omega) (D d2_67) rfl ?_
      refine go_stT 69 (i := n0 + 4) (x' := (dch ((((mag p) / 10 / 10) / 10 / 10) / 10))) rfl A587 p4 (by simp only [List.length_cons, List.length_nil] <;> omega) (by omega) p1 (dch_i8 _) (D d2_68) rfl (fun h589 W590 A591 => ?_)
      refine go_goto 22 (D d2_69) (by decide) rfl ?_
      refine go_iload_n 23 (D d2_22) rfl rfl ?_
      refine go_bipush 25 (v := (-100)) (D d2_23) rfl rfl ?_
      refine go_icF 28 (D d2_25) rfl (XT.ii_gt_f (fun z => absurd ((ng_le (k := 100) (by have := mag_le p; omega) (by decide) (by decide)).mp z) (by omega))) ?_
      refine go_iload_n 29 (D d2_28) rfl rfl ?_
      refine go_bipush 31 (v := 100) (D d2_29) rfl rfl ?_
      refine go_idiv 32 (z := (ng (((((mag p) / 10 / 10) / 10 / 10) / 10 / 10) / 10 / 10))) (D d2_31) rfl (by decide) (ng_div2 (by have := mag_le p; omega)) ?_
      refine go_istore_n 33 (ls' := #[vi (ng ((((mag p) / 10 / 10) / 10 / 10) / 10 / 10)), vi (Int32.ofNat (n0 + (rep p).length)), vr a, vi (ng (((((mag p) / 10 / 10) / 10 / 10) / 10 / 10) / 10 / 10)), vi (Int32.ofNat ((((mag p) / 10 / 10) / 10 / 10) % 100)), vi (Int32.ofNat (n0 + 4)), vi 0]) (D d2_32) rfl rfl ?_
      refine go_iload_n 34 (D d2_33) rfl rfl ?_
      refine go_bipush 36 (v := 100) (D d2_34) rfl rfl ?_
      refine go_imul 37 (z := ((ng (((((mag p) / 10 / 10) / 10 / 10) / 10 / 10) / 10 / 10)) * (100 : Int32))) (D d2_36) rfl rfl ?_
      refine go_iload_n 38 (D d2_37) rfl rfl ?_
      refine go_isub 39 (z := (Int32.ofNat (((((mag p) / 10 / 10) / 10 / 10) / 10 / 10) % 100))) (D d2_38) rfl (ng_rem2 (by have := mag_le p; omega)) ?_
      refine go_istore 41 (ls' := #[vi (ng ((((mag p) / 10 / 10) / 10 / 10) / 10 / 10)), vi (Int32.ofNat (n0 + (rep p).length)), vr a, vi (ng (((((mag p) / 10 / 10) / 10 / 10) / 10 / 10) / 10 / 10)), vi (Int32.ofNat (((((mag p) / 10 / 10) / 10 / 10) / 10 / 10) % 100)), vi (Int32.ofNat (n0 + 4)), vi 0]) (D d2_39) rfl rfl ?_
      refine go_iload_n 42 (D d2_41) rfl rfl ?_
      refine go_istore_n 43 (ls' := #[vi (ng (((((mag p) / 10 / 10) / 10 / 10) / 10 / 10) / 10 / 10)), vi (Int32.ofNat (n0 + (rep p).length)), vr a, vi (ng (((((mag p) / 10 / 10) / 10 / 10) / 10 / 10) / 10 / 10)), vi (Int32.ofNat (((((mag p) / 10 / 10) / 10 / 10) / 10 / 10) % 100)), vi (Int32.ofNat (n0 + 4)), vi 0]) (D d2_42) rfl rfl ?_
      refine go_aload_n 44 (D d2_43) rfl rfl rfl ?_
      refine go_iinc 47 (ls' := #[vi (ng (((((mag p) / 10 / 10) / 10 / 10) / 10 / 10) / 10 / 10)), vi (Int32.ofNat (n0 + (rep p).length)), vr a, vi (ng (((((mag p) / 10 / 10) / 10 / 10) / 10 / 10) / 10 / 10)), vi (Int32.ofNat (((((mag p) / 10 / 10) / 10 / 10) / 10 / 10) % 100)), vi (Int32.ofNat (n0 + 3)), vi 0]) (y := (Int32.ofNat (n0 + 3))) (D d2_44) rfl rfl (ofn_dec (n := n0 + 3) (by omega)) rfl ?_
      refine go_iload 49 (D d2_47) rfl rfl ?_
      refine go_old (fun O592 => ?_)
      refine go_getS 52 (wk G 136) ((st_DO G).ext O592.2) (D d2_49) rfl ?_
      refine go_iload 54 (D d2_52) rfl rfl ?_
      refine go_tabO 55 G (n := ((((mag p) / 10 / 10) / 10 / 10) / 10 / 10) % 100) (v := (dch ((((mag p) / 10 / 10) / 10 / 10) / 10 / 10))) (by omega) (by unfold dch; congr 1 <;> omega) (D d2_54) rfl ?_
      refine go_stT 56 (i := n0 + 3) (x' := (dch ((((mag p) / 10 / 10) / 10 / 10) / 10 / 10))) rfl A591 p4 (by simp only [List.length_cons, List.length_nil] <;> omega) (by omega) p1 (dch_i8 _) (D d2_55) rfl (fun h593 W594 A595 => ?_)
      refine go_aload_n 57 (D d2_56) rfl rfl rfl ?_
      refine go_iinc 60 (ls' := #[vi (ng (((((mag p) / 10 / 10) / 10 / 10) / 10 / 10) / 10 / 10)), vi (Int32.ofNat (n0 + (rep p).length)), vr a, vi (ng (((((mag p) / 10 / 10) / 10 / 10) / 10 / 10) / 10 / 10)), vi (Int32.ofNat (((((mag p) / 10 / 10) / 10 / 10) / 10 / 10) % 100)), vi (Int32.ofNat (n0 + 2)), vi 0]) (y := (Int32.ofNat (n0 + 2))) (D d2_57) rfl rfl (ofn_dec (n := n0 + 2) (by omega)) rfl ?_
      refine go_iload 62 (D d2_60) rfl rfl ?_
      refine go_old (fun O596 => ?_)
      refine go_getS 65 (wk G 221) ((st_DT G).ext O596.2) (D d2_62) rfl ?_
      refine go_iload 67 (D d2_65) rfl rfl ?_
      refine go_tabT 68 G (n := ((((mag p) / 10 / 10) / 10 / 10) / 10 / 10) % 100) (v := (dch (((((mag p) / 10 / 10) / 10 / 10) / 10 / 10) / 10))) (by omega) (by unfold dch; congr 1 <;> omega) (D d2_67) rfl ?_
      refine go_stT 69 (i := n0 + 2) (x' := (dch (((((mag p) / 10 / 10) / 10 / 10) / 10 / 10) / 10))) rfl A595 p4 (by simp only [List.length_cons, List.length_nil] <;> omega) (by omega) p1 (dch_i8 _) (D d2_68) rfl (fun h597 W598 A599 => ?_)
      refine go_goto 22 (D d2_69) (by decide) rfl ?_
      refine go_iload_n 23 (D d2_22) rfl rfl ?_
      refine go_bipush 25 (v := (-100)) (D d2_23) rfl rfl ?_
      refine go_icT 72 (D d2_25) (by decide) rfl (XT.ii_gt_t ((ng_le (k := 100) (by have := mag_le p; omega) (by decide) (by decide)).mpr (by omega))) ?_
      refine go_aload_n 73 (D d2_72) rfl rfl rfl ?_
      refine go_iinc 76 (ls' := #[vi (ng (((((mag p) / 10 / 10) / 10 / 10) / 10 / 10) / 10 / 10)), vi (Int32.ofNat (n0 + (rep p).length)), vr a, vi (ng (((((mag p) / 10 / 10) / 10 / 10) / 10 / 10) / 10 / 10)), vi (Int32.ofNat (((((mag p) / 10 / 10) / 10 / 10) / 10 / 10) % 100)), vi (Int32.ofNat (n0 + 1)), vi 0]) (y := (Int32.ofNat (n0 + 1))) (D d2_73) rfl rfl (ofn_dec (n := n0 + 1) (by omega)) rfl ?_
      refine go_iload 78 (D d2_76) rfl rfl ?_
      refine go_old (fun O600 => ?_)
      refine go_getS 81 (wk G 136) ((st_DO G).ext O600.2) (D d2_78) rfl ?_
      refine go_iload_n 82 (D d2_81) rfl rfl ?_
      refine go_ineg 83 (z := (Int32.ofNat (((((mag p) / 10 / 10) / 10 / 10) / 10 / 10) / 10 / 10))) (D d2_82) rfl (ng_ng (by omega)) ?_
      refine go_tabO 84 G (n := (((((mag p) / 10 / 10) / 10 / 10) / 10 / 10) / 10 / 10)) (v := (dch (((((mag p) / 10 / 10) / 10 / 10) / 10 / 10) / 10 / 10))) (by omega) (by unfold dch; congr 1 <;> omega) (D d2_83) rfl ?_
      refine go_stT 85 (i := n0 + 1) (x' := (dch (((((mag p) / 10 / 10) / 10 / 10) / 10 / 10) / 10 / 10))) rfl A599 p4 (by simp only [List.length_cons, List.length_nil] <;> omega) (by omega) p1 (dch_i8 _) (D d2_84) rfl (fun h601 W602 A603 => ?_)
      refine go_iload_n 86 (D d2_85) rfl rfl ?_
      refine go_bipush 88 (v := (-9)) (D d2_86) rfl rfl ?_
      refine go_icF 91 (D d2_88) rfl (XT.ii_ge_f ((ng_lt (k := 9) (by have := mag_le p; omega) (by decide) (by decide)).mpr (by omega))) ?_
      refine go_aload_n 92 (D d2_91) rfl rfl rfl ?_
      refine go_iinc 95 (ls' := #[vi (ng (((((mag p) / 10 / 10) / 10 / 10) / 10 / 10) / 10 / 10)), vi (Int32.ofNat (n0 + (rep p).length)), vr a, vi (ng (((((mag p) / 10 / 10) / 10 / 10) / 10 / 10) / 10 / 10)), vi (Int32.ofNat (((((mag p) / 10 / 10) / 10 / 10) / 10 / 10) % 100)), vi (Int32.ofNat (n0 + 0)), vi 0]) (y := (Int32.ofNat (n0 + 0))) (D d2_92) rfl rfl (ofn_dec (n := n0 + 0) (by omega)) rfl ?_
      refine go_iload 97 (D d2_95) rfl rfl ?_
      refine go_old (fun O604 => ?_)
      refine go_getS 100 (wk G 221) ((st_DT G).ext O604.2) (D d2_97) rfl ?_
      refine go_iload_n 101 (D d2_100) rfl rfl ?_
      refine go_ineg 102 (z := (Int32.ofNat (((((mag p) / 10 / 10) / 10 / 10) / 10 / 10) / 10 / 10))) (D d2_101) rfl (ng_ng (by omega)) ?_
      refine go_tabT 103 G (n := (((((mag p) / 10 / 10) / 10 / 10) / 10 / 10) / 10 / 10)) (v := (dch ((((((mag p) / 10 / 10) / 10 / 10) / 10 / 10) / 10 / 10) / 10))) (by omega) (by unfold dch; congr 1 <;> omega) (D d2_102) rfl ?_
      refine go_stT 104 (i := n0 + 0) (x' := (dch ((((((mag p) / 10 / 10) / 10 / 10) / 10 / 10) / 10 / 10) / 10))) rfl A603 p4 (by simp only [List.length_cons, List.length_nil] <;> omega) (by omega) p1 (dch_i8 _) (D d2_103) rfl (fun h605 W606 A607 => ?_)
      refine go_iload 106 (D d2_104) rfl rfl ?_
      refine go_ifT 118 (D d2_106) (by decide) rfl (by decide) ?_
      refine go_iload 120 (D d2_118) rfl rfl ?_
      have K608 : Keep h0 h569 [a] := ((Keep.refl h0 [a]).wr W570 (Or.inl (by simp)))
      have K609 : Keep h0 h573 [a] := (K608.wr W574 (Or.inl (by simp)))
      have K610 : Keep h0 h577 [a] := (K609.wr W578 (Or.inl (by simp)))
      have K611 : Keep h0 h581 [a] := (K610.wr W582 (Or.inl (by simp)))
      have K612 : Keep h0 h585 [a] := (K611.wr W586 (Or.inl (by simp)))
      have K613 : Keep h0 h589 [a] := (K612.wr W590 (Or.inl (by simp)))
      have K614 : Keep h0 h593 [a] := (K613.wr W594 (Or.inl (by simp)))
      have K615 : Keep h0 h597 [a] := (K614.wr W598 (Or.inl (by simp)))
      have K616 : Keep h0 h601 [a] := (K615.wr W602 (Or.inl (by simp)))
      have K617 : Keep h0 h605 [a] := (K616.wr W606 (Or.inl (by simp)))
      refine go_ireturn hret hlk rfl (by simp) (D d2_120) (by decide) (by decide) ⟨_, rfl, ⟨(Int32.ofNat (n0 + 0)), rfl, ((show tk L (n0 + 0) [(.int (dch ((((((mag p) / 10 / 10) / 10 / 10) / 10 / 10) / 10 / 10) / 10))), (.int (dch (((((mag p) / 10 / 10) / 10 / 10) / 10 / 10) / 10 / 10))), (.int (dch (((((mag p) / 10 / 10) / 10 / 10) / 10 / 10) / 10))), (.int (dch ((((mag p) / 10 / 10) / 10 / 10) / 10 / 10))), (.int (dch ((((mag p) / 10 / 10) / 10 / 10) / 10))), (.int (dch (((mag p) / 10 / 10) / 10 / 10))), (.int (dch (((mag p) / 10 / 10) / 10))), (.int (dch ((mag p) / 10 / 10))), (.int (dch ((mag p) / 10))), (.int (dch (mag p)))] (n0 + 10) = tk L n0 ((rep p).map Value.int) (n0 + (rep p).length) from by rw [n567, rep_p cz1 n330]; rfl) ▸ A607)⟩⟩ K617
theorem ef3 (m : MethodId) (v0 : Addr) (v1 : Int32) : entryFrame m #[(.ref v0), (.int v1)] 2 = mkF m 0 #[.val (.ref v0), .val (.int v1)] [] := by first | (simp [entryFrame, mkF, argsToLocals, Value.category]; done) | rfl
def Q_asbinit (Z : State) (a : Addr) (h0 : Heap) (h : Heap) : Prop := ∃ (t : Addr) (k : ClassId), h0.size ≤ t ∧ Fld Z h a "java/lang/AbstractStringBuilder" "value" "[B" (.ref t) ∧ Fld Z h a "java/lang/AbstractStringBuilder" "coder" "B" (.int 0) ∧ Fld Z h a "java/lang/AbstractStringBuilder" "count" "I" (.int 0) ∧ Arv Z h t k (.byte) (16 : Int32) [(.int 0), (.int 0), (.int 0), (.int 0), (.int 0), (.int 0), (.int 0), (.int 0), (.int 0), (.int 0), (.int 0), (.int 0), (.int 0), (.int 0), (.int 0), (.int 0)] (.int 0)
theorem c_asbinit (G : GH Z a0) (a : Addr)  (h0 : Heap) (O0 : Old Z Z.heap.size h0) (p1 : Exa Z h0 a "java/lang/StringBuilder") (p2 : Z.heap.size ≤ a) (p3 : Fld Z h0 a "java/lang/AbstractStringBuilder" "value" "[B" .null) (p4 : Fld Z h0 a "java/lang/AbstractStringBuilder" "coder" "B" (.int 0)) (p5 : Fld Z h0 a "java/lang/AbstractStringBuilder" "count" "I" (.int 0)) : Con false [] l Z (⟨"java/lang/AbstractStringBuilder", "<init>", "(I)V"⟩ : MethodName) jdk_68_method_2_code 2 none [] (rm4 1 1 16 12) #[(.ref a), (.int 16)] h0 [a] (rno (Q_asbinit Z a h0)) := by
  refine conN G (plainFor_of_name pn2) O0 (fun m => ef3 m a (16 : Int32)) ?_
  intro _ _ _ m_ _ _ _ D hml hret hlk hnm
  refine go_aload_n 1 (D d3_0) rfl rfl rfl ?_
  refine go_initO 4 (Wd := 0) (wk G 59) (wk G 13) (wk G 14) (sz hml) (by decide) (by decide) (by decide) (D d3_1) rfl ?_
  obtain ⟨z1, s2, q3⟩ := cs_of G
  refine go_getS 7 (wk G 60) (s2.ext O0.2) (D d3_4) rfl ?_
  refine go_ifF 10 (D d3_7) rfl (XT.i0_eq_f q3) ?_
  refine go_aload_n 11 (D d3_10) rfl rfl rfl ?_
  refine go_iload_n 12 (D d3_11) rfl rfl ?_
  refine go_newP 14 (cells' := 1) (slots' := 16) (cap := 16) (vs := [(.int 0), (.int 0), (.int 0), (.int 0), (.int 0), (.int 0), (.int 0), (.int 0), (.int 0), (.int 0), (.int 0), (.int 0), (.int 0), (.int 0), (.int 0), (.int 0)]) (ty := .byte) (dv := .int 0) (wk G 20) rfl rfl (D d3_12) rfl (by decide) rfl (by decide) rfl rfl rfl (by decide) (by decide) (fun h4 a5 k9 g6 X7 A8 => ?_)
  have K10 : Keep h0 h4 [] := ((Keep.refl h0 []).ext X7)
  have F11 := (p3.keep K10 nin0)
  have E12 := (p1.keep K10)
  refine go_putF 17 (wk G 61) Via.refl F11 E12 (Or.inl (wk G 62)) (wk G 48) (ty := (.array .byte)) (v' := (.ref a5)) (by decide) rfl rfl p2 (Or.inr rfl) (D d3_14) rfl (fun h13 W14 => ?_)
  have F15 := Fld.same W14 F11
  refine go_aload_n 18 (D d3_17) rfl rfl rfl ?_
  refine go_iconst 19 (v := 0) (D d3_18) rfl rfl ?_
  have F16 := ((p4.ext X7).other W14 (Or.inr (slot_ne (t := .byte) (t' := (.array .byte)) (Or.inl (wk G 64)) (Or.inl (wk G 62)) (by decide) (by decide) (by decide))))
  have E17 := (E12.wr W14)
  refine go_putF 22 (wk G 63) Via.refl F16 E17 (Or.inl (wk G 64)) (wk G 48) (ty := .byte) (v' := (.int 0)) (by decide) rfl (by decide) p2 (Or.inr rfl) (D d3_19) rfl (fun h18 W19 => ?_)
  have F20 := Fld.same W19 F16
  refine go_goto 38 (D d3_22) (by decide) rfl ?_
  have K21 : Keep h0 h4 [a] := ((Keep.refl h0 [a]).ext X7)
  have K22 : Keep h0 h13 [a] := (K21.wr W14 (Or.inl (by simp)))
  have K23 : Keep h0 h18 [a] := (K22.wr W19 (Or.inl (by simp)))
  have F24 := (F15.other W19 (Or.inr (slot_ne (t := (.array .byte)) (t' := .byte) (Or.inl (wk G 62)) (Or.inl (wk G 64)) (by decide) (by decide) (by decide))))
  have F25 := (((p5.ext X7).other W14 (Or.inr (slot_ne (t := .int) (t' := (.array .byte)) (Or.inl (wk G 86)) (Or.inl (wk G 62)) (by decide) (by decide) (by decide)))).other W19 (Or.inr (slot_ne (t := .int) (t' := .byte) (Or.inl (wk G 86)) (Or.inl (wk G 64)) (by decide) (by decide) (by decide))))
  have A26 := ((A8.other W14 (Nat.ne_of_gt (Nat.lt_of_lt_of_le p1.lt (Nat.le_of_eq g6)))).other W19 (Nat.ne_of_gt (Nat.lt_of_lt_of_le p1.lt (Nat.le_of_eq g6))))
  refine go_return hret hlk (D d3_38) (by decide) (by decide) ⟨rfl, ⟨a5, k9, (Nat.le_of_eq g6), F24, F20, F25, A26⟩⟩ K23
theorem ef4 (m : MethodId) (v0 : Addr) : entryFrame m #[(.ref v0)] 1 = mkF m 0 #[.val (.ref v0)] [] := by first | (simp [entryFrame, mkF, argsToLocals, Value.category]; done) | rfl
def Q_sbinit (Z : State) (a : Addr) (h0 : Heap) (h : Heap) : Prop := ∃ (t : Addr) (k : ClassId), h0.size ≤ t ∧ Fld Z h a "java/lang/AbstractStringBuilder" "value" "[B" (.ref t) ∧ Fld Z h a "java/lang/AbstractStringBuilder" "coder" "B" (.int 0) ∧ Fld Z h a "java/lang/AbstractStringBuilder" "count" "I" (.int 0) ∧ Arv Z h t k (.byte) (16 : Int32) [(.int 0), (.int 0), (.int 0), (.int 0), (.int 0), (.int 0), (.int 0), (.int 0), (.int 0), (.int 0), (.int 0), (.int 0), (.int 0), (.int 0), (.int 0), (.int 0)] (.int 0)
theorem c_sbinit (G : GH Z a0) (a : Addr)  (h0 : Heap) (O0 : Old Z Z.heap.size h0) (p1 : Exa Z h0 a "java/lang/StringBuilder") (p2 : Z.heap.size ≤ a) (p3 : Fld Z h0 a "java/lang/AbstractStringBuilder" "value" "[B" .null) (p4 : Fld Z h0 a "java/lang/AbstractStringBuilder" "coder" "B" (.int 0)) (p5 : Fld Z h0 a "java/lang/AbstractStringBuilder" "count" "I" (.int 0)) : Con false [] l Z (⟨"java/lang/StringBuilder", "<init>", "()V"⟩ : MethodName) jdk_67_method_1_code 1 none [] (rm4 2 1 16 25) #[(.ref a)] h0 [a] (rno (Q_sbinit Z a h0)) := by
  refine conN G (plainFor_of_name pn3) O0 (fun m => ef4 m a) ?_
  intro _ _ _ m_ _ _ _ D hml hret hlk hnm
  refine go_aload_n 1 (D d4_0) rfl rfl rfl ?_
  refine go_bipush 3 (v := 16) (D d4_1) rfl rfl ?_
  refine callI0 (cells' := 1) (slots' := 16) (Wd := 0) (argsL := [(.int 16)]) (rest := []) (pay_of (a0 := a0) (c_asbinit l G a h0 O0 p1 p2 p3 p4 p5) (wk G 58) (wk G 57)) rfl (wk G 53) (wk G 54) (wk G 58) pd1 (sz hml) (allS p2 all0) (fun _ hal => (sfS safe_nil sf0)) (D d4_3) (k_n 6 rfl ?_)
  rintro  h1 ⟨r3, r4, f5, f6, f7, f8, f9⟩ K2
  have K10 : Keep h0 h1 [a] := ((Keep.refl h0 [a]).trans K2 (allS (Or.inl (by simp)) all0))
  refine go_return hret hlk (D d4_6) (by decide) (by decide) ⟨rfl, ⟨r3, r4, f5, f6, f7, f8, f9⟩⟩ K10
def Q_coder (Z : State) (a : Addr) (h0 : Heap) (xv : Value) (h : Heap) : Prop := (.int 0) = xv ∧ h0 = h
theorem c_coder (G : GH Z a0) (a : Addr)  (h0 : Heap) (O0 : Old Z Z.heap.size h0) (p1 : Fld Z h0 a "java/lang/String" "coder" "B" (.int 0)) : Con false [] l Z (⟨"java/lang/String", "coder", "()B"⟩ : MethodName) jdk_42_method_152_code 1 (some .byte) [] (rm4 0 0 0 0) #[(.ref a)] h0 [] (rvl (Q_coder Z a h0)) := by
  refine conN G (plainFor_of_name pn4) O0 (fun m => ef4 m a) ?_
  intro _ _ _ m_ _ _ _ D hml hret hlk hnm
  obtain ⟨z1, s2, q3⟩ := cs_of G
  refine go_getS 3 (wk G 15) (s2.ext O0.2) (D d5_0) rfl ?_
  refine go_ifF 6 (D d5_3) rfl (XT.i0_eq_f q3) ?_
  refine go_aload_n 7 (D d5_6) rfl rfl rfl ?_
  refine go_getF 10 (wk G 27) Via.refl p1 (D d5_7) rfl ?_
  refine go_goto 14 (D d5_10) (by decide) rfl ?_
  refine go_ireturn hret hlk rfl (by simp) (D d5_14) (by decide) (by decide) ⟨_, rfl, ⟨rfl, rfl⟩⟩ (Keep.refl h0 [])
def Q_asblatin (Z : State) (a : Addr) (h0 : Heap) (xv : Value) (h : Heap) : Prop := (.int 1) = xv ∧ h0 = h
theorem c_asblatin (G : GH Z a0) (a : Addr)  (h0 : Heap) (O0 : Old Z Z.heap.size h0) (p1 : Fld Z h0 a "java/lang/AbstractStringBuilder" "coder" "B" (.int 0)) : Con false [] l Z (⟨"java/lang/AbstractStringBuilder", "isLatin1", "()Z"⟩ : MethodName) jdk_68_method_68_code 1 (some .boolean) [] (rm4 0 0 0 0) #[(.ref a)] h0 [] (rvl (Q_asblatin Z a h0)) := by
  refine conN G (plainFor_of_name pn2) O0 (fun m => ef4 m a) ?_
  intro _ _ _ m_ _ _ _ D hml hret hlk hnm
  obtain ⟨z1, s2, q3⟩ := cs_of G
  refine go_getS 3 (wk G 60) (s2.ext O0.2) (D d6_0) rfl ?_
  refine go_ifF 6 (D d6_3) rfl (XT.i0_eq_f q3) ?_
  refine go_aload_n 7 (D d6_6) rfl rfl rfl ?_
  refine go_getF 10 (wk G 63) Via.refl p1 (D d6_7) rfl ?_
  refine go_ifF 13 (D d6_10) rfl (by decide) ?_
  refine go_iconst 14 (v := 1) (D d6_13) rfl rfl ?_
  refine go_goto 18 (D d6_14) (by decide) rfl ?_
  refine go_ireturn hret hlk rfl (by simp) (D d6_18) (by decide) (by decide) ⟨_, rfl, ⟨rfl, rfl⟩⟩ (Keep.refl h0 [])
theorem ef5 (m : MethodId) (v0 : Addr) (v1 : Int32) : entryFrame m #[(.ref v0), (.int v1)] 3 = mkF m 0 #[.val (.ref v0), .val (.int v1), .unset] [] := by first | (simp [entryFrame, mkF, argsToLocals, Value.category]; done) | rfl
def Q_ensure (Z : State) (a : Addr) (u : Int32) (t : Addr) (k : ClassId) (L : List Value) (h0 : Heap) (h : Heap) : Prop := h0 = h
theorem c_ensure (G : GH Z a0) (a : Addr) (u : Int32) (t : Addr) (k : ClassId) (L : List Value) (h0 : Heap) (O0 : Old Z Z.heap.size h0) (p1 : Fld Z h0 a "java/lang/AbstractStringBuilder" "value" "[B" (.ref t)) (p2 : Fld Z h0 a "java/lang/AbstractStringBuilder" "coder" "B" (.int 0)) (p3 : Arv Z h0 t k (.byte) (16 : Int32) L (.int 0)) (p4 : ¬ (0 : Int32) < (u - (16 : Int32))) : Con false [] l Z (⟨"java/lang/AbstractStringBuilder", "ensureCapacityInternal", "(I)V"⟩ : MethodName) jdk_68_method_9_code 3 none [] (rm4 0 0 0 0) #[(.ref a), (.int u)] h0 [] (rno (Q_ensure Z a u t k L h0)) := by
  refine conN G (plainFor_of_name pn2) O0 (fun m => ef5 m a u) ?_
  intro _ _ _ m_ _ _ _ D hml hret hlk hnm
  refine go_aload_n 1 (D d7_0) rfl rfl rfl ?_
  refine go_getF 4 (wk G 61) Via.refl p1 (D d7_1) rfl ?_
  refine go_arraylength 5 p3 (D d7_4) rfl ?_
  refine go_aload_n 6 (D d7_5) rfl rfl rfl ?_
  refine go_getF 9 (wk G 63) Via.refl p2 (D d7_6) rfl ?_
  refine go_ishr 10 (z := (16 : Int32)) (D d7_9) rfl (by decide) ?_
  refine go_istore_n 11 (ls' := #[vr a, vi u, vi 16]) (D d7_10) rfl rfl ?_
  refine go_iload_n 12 (D d7_11) rfl rfl ?_
  refine go_iload_n 13 (D d7_12) rfl rfl ?_
  refine go_isub 14 (z := (u - (16 : Int32))) (D d7_13) rfl rfl ?_
  refine go_ifT 38 (D d7_14) (by decide) rfl (XT.i0_le_t p4) ?_
  refine go_return hret hlk (D d7_38) (by decide) (by decide) ⟨rfl, rfl⟩ (Keep.refl h0 [])
theorem ef6 (m : MethodId) (v0 v1 : Addr) : entryFrame m #[(.ref v0), (.ref v1)] 2 = mkF m 0 #[.val (.ref v0), .val (.ref v1)] [] := by first | (simp [entryFrame, mkF, argsToLocals, Value.category]; done) | rfl
def Q_inflate (Z : State) (a b : Addr) (h0 : Heap) (h : Heap) : Prop := h0 = h
theorem c_inflate (G : GH Z a0) (a b : Addr)  (h0 : Heap) (O0 : Old Z Z.heap.size h0) (p1 : Fld Z h0 a "java/lang/AbstractStringBuilder" "coder" "B" (.int 0)) (p2 : Exa Z h0 b "java/lang/String") (p3 : Fld Z h0 b "java/lang/String" "coder" "B" (.int 0)) : Con false [] l Z (⟨"java/lang/AbstractStringBuilder", "inflateIfNeededFor", "(Ljava/lang/String;)V"⟩ : MethodName) jdk_68_method_71_code 2 none [] (rm4 1 0 0 13) #[(.ref a), (.ref b)] h0 [] (rno (Q_inflate Z a b h0)) := by
  refine conN G (plainFor_of_name pn2) O0 (fun m => ef6 m a b) ?_
  intro _ _ _ m_ _ _ _ D hml hret hlk hnm
  obtain ⟨z1, s2, q3⟩ := cs_of G
  refine go_getS 3 (wk G 60) (s2.ext O0.2) (D d8_0) rfl ?_
  refine go_ifF 6 (D d8_3) rfl (XT.i0_eq_f q3) ?_
  refine go_aload_n 7 (D d8_6) rfl rfl rfl ?_
  refine go_getF 10 (wk G 63) Via.refl p1 (D d8_7) rfl ?_
  refine go_aload_n 11 (D d8_10) rfl rfl rfl ?_
  refine callV0 (cells' := 0) (slots' := 0) (Wd := 1) (argsL := []) (rest := [(.int 0)]) (pay_of (a0 := a0) (c_coder l G b h0 O0 p3) (wk G 84) (wk G 4)) p2 (wk G 102) (wk G 81) (wk G 83) (wk G 83) (wk G 82) pd2 (sz hml) all0 sf00 (D d8_11) (k_v 14 rfl ?_)
  rintro _ h4 ⟨rfl, rfl⟩ K5
  refine go_icT 21 (D d8_14) (by decide) rfl (by decide) ?_
  refine go_return hret hlk (D d8_21) (by decide) (by decide) ⟨rfl, rfl⟩ (Keep.refl h0 [])
def Q_getval (Z : State) (a t : Addr) (h0 : Heap) (xv : Value) (h : Heap) : Prop := (.ref t) = xv ∧ h0 = h
theorem c_getval (G : GH Z a0) (a : Addr) (t : Addr) (h0 : Heap) (O0 : Old Z Z.heap.size h0) (p1 : Fld Z h0 a "java/lang/AbstractStringBuilder" "value" "[B" (.ref t)) : Con false [] l Z (⟨"java/lang/AbstractStringBuilder", "getValue", "()[B"⟩ : MethodName) jdk_68_method_64_code 1 (some (.array .byte)) [] (rm4 0 0 0 0) #[(.ref a)] h0 [] (rvl (Q_getval Z a t h0)) := by
  refine conN G (plainFor_of_name pn2) O0 (fun m => ef4 m a) ?_
  intro _ _ _ m_ _ _ _ D hml hret hlk hnm
  refine go_aload_n 1 (D d9_0) rfl rfl rfl ?_
  refine go_getF 4 (wk G 61) Via.refl p1 (D d9_1) rfl ?_
  refine go_areturn hret hlk rfl rfl (D d9_4) (by decide) (by decide) ⟨_, rfl, ⟨rfl, rfl⟩⟩ (Keep.refl h0 [])
def Q_asblen (Z : State) (a : Addr) (u : Int32) (h0 : Heap) (xv : Value) (h : Heap) : Prop := (.int u) = xv ∧ h0 = h
theorem c_asblen (G : GH Z a0) (a : Addr) (u : Int32) (h0 : Heap) (O0 : Old Z Z.heap.size h0) (p1 : Fld Z h0 a "java/lang/AbstractStringBuilder" "count" "I" (.int u)) : Con false [] l Z (⟨"java/lang/AbstractStringBuilder", "length", "()I"⟩ : MethodName) jdk_68_method_6_code 1 (some .int) [] (rm4 0 0 0 0) #[(.ref a)] h0 [] (rvl (Q_asblen Z a u h0)) := by
  refine conN G (plainFor_of_name pn2) O0 (fun m => ef4 m a) ?_
  intro _ _ _ m_ _ _ _ D hml hret hlk hnm
  refine go_aload_n 1 (D d10_0) rfl rfl rfl ?_
  refine go_getF 4 (wk G 85) Via.refl p1 (D d10_1) rfl ?_
  refine go_ireturn hret hlk rfl (by simp) (D d10_4) (by decide) (by decide) ⟨_, rfl, ⟨rfl, rfl⟩⟩ (Keep.refl h0 [])
def Q_sblen (Z : State) (a : Addr) (u : Int32) (h0 : Heap) (xv : Value) (h : Heap) : Prop := (.int u) = xv ∧ h0 = h
theorem c_sblen (G : GH Z a0) (a : Addr) (u : Int32) (h0 : Heap) (O0 : Old Z Z.heap.size h0) (p1 : Exa Z h0 a "java/lang/StringBuilder") (p2 : Fld Z h0 a "java/lang/AbstractStringBuilder" "count" "I" (.int u)) : Con false [] l Z (⟨"java/lang/StringBuilder", "length", "()I"⟩ : MethodName) jdk_67_method_93_code 1 (some .int) [] (rm4 1 0 0 12) #[(.ref a)] h0 [] (rvl (Q_sblen Z a u h0)) := by
  refine conN G (plainFor_of_name pn3) O0 (fun m => ef4 m a) ?_
  intro _ _ _ m_ _ _ _ D hml hret hlk hnm
  refine go_aload_n 1 (D d11_0) rfl rfl rfl ?_
  refine callU0 (cells' := 0) (slots' := 0) (Wd := 0) (argsL := []) (rest := []) (pay_of (a0 := a0) (c_asblen l G a u h0 O0 p2) (wk G 161) (wk G 57)) (Ins.self p1) (wk G 160) (same_self (z := (⟨"java/lang/AbstractStringBuilder", "ensureCapacityInternal", "(I)V"⟩ : MethodName)) rfl (wk G 90) (wk G 156) (by decide)) (wk G 156) (wk G 72) (wk G 161) pd3 (sz hml) all0 sf00 (D d11_1) (k_v 4 rfl ?_)
  rintro _ h1 ⟨rfl, rfl⟩ K2
  refine go_ireturn hret hlk rfl (by simp) (D d11_4) (by decide) (by decide) ⟨_, rfl, ⟨rfl, rfl⟩⟩ (Keep.refl h0 [])
theorem ef7 (m : MethodId) (v0 v1 : Int32) : entryFrame m #[(.int v0), (.int v1)] 2 = mkF m 0 #[.val (.int v0), .val (.int v1)] [] := by first | (simp [entryFrame, mkF, argsToLocals, Value.category]; done) | rfl
def Q_chkl (Z : State) (i j : Int32) (h0 : Heap) (h : Heap) : Prop := h0 = h
theorem c_chkl (G : GH Z a0) (i j : Int32)  (h0 : Heap) (O0 : Old Z Z.heap.size h0) (p1 : ¬ j < i) : Con false [] l Z (⟨"java/util/Arrays", "checkLength", "(II)V"⟩ : MethodName) jdk_65_method_131_code 2 none [] (rm4 0 0 0 0) #[(.int i), (.int j)] h0 [] (rno (Q_chkl Z i j h0)) := by
  refine conN G (plainFor_of_name pn5) O0 (fun m => ef7 m i j) ?_
  intro _ _ _ m_ _ _ _ D hml hret hlk hnm
  refine go_iload_n 1 (D d12_0) rfl rfl ?_
  refine go_iload_n 2 (D d12_1) rfl rfl ?_
  refine go_icT 37 (D d12_2) (by decide) rfl (XT.ii_ge_t p1) ?_
  refine go_return hret hlk (D d12_37) (by decide) (by decide) ⟨rfl, rfl⟩ (Keep.refl h0 [])
def Q_minu (Z : State) (u : Int32) (h0 : Heap) (xv : Value) (h : Heap) : Prop := (.int u) = xv ∧ h0 = h
theorem c_minu (G : GH Z a0) (u : Int32)  (h0 : Heap) (O0 : Old Z Z.heap.size h0) (p1 : u < (16 : Int32)) : Con false [] l Z (⟨"java/lang/Math", "min", "(II)I"⟩ : MethodName) jdk_29_method_69_code 2 (some .int) [] (rm4 0 0 0 0) #[(.int 16), (.int u)] h0 [] (rvl (Q_minu Z u h0)) := by
  refine conN G (Jvm.Free.JP.mathPlain rfl (by decide)) O0 (fun m => ef7 m (16 : Int32) u) ?_
  intro _ _ _ m_ _ _ _ D hml hret hlk hnm
  refine go_iload_n 1 (D d13_0) rfl rfl ?_
  refine go_iload_n 2 (D d13_1) rfl rfl ?_
  refine go_icT 9 (D d13_2) (by decide) rfl (XT.ii_gt_t p1) ?_
  refine go_iload_n 10 (D d13_9) rfl rfl ?_
  refine go_ireturn hret hlk rfl (by simp) (D d13_10) (by decide) (by decide) ⟨_, rfl, ⟨rfl, rfl⟩⟩ (Keep.refl h0 [])
theorem ef8 (m : MethodId) (v0 : Addr) (v1 v2 : Int32) : entryFrame m #[(.ref v0), (.int v1), (.int v2)] 5 = mkF m 0 #[.val (.ref v0), .val (.int v1), .val (.int v2), .unset, .unset] [] := by first | (simp [entryFrame, mkF, argsToLocals, Value.category]; done) | rfl
def Q_corb (Z : State) (t : Addr) (u : Int32) (k : ClassId) (L : List Value) (n : Nat) (h0 : Heap) (xv : Value) (h : Heap) : Prop := ∃ (r : Addr) (k2 : ClassId), (.ref r) = xv ∧ h0.size ≤ r ∧ Arv Z h r k2 (.byte) (Int32.ofNat n) (L.take n) (.int 0)
theorem c_corb (G : GH Z a0) (t : Addr) (u : Int32) (k : ClassId) (L : List Value) (n : Nat) (h0 : Heap) (O0 : Old Z Z.heap.size h0) (p1 : Arv Z h0 t k (.byte) (16 : Int32) L (.int 0)) (p2 : u = Int32.ofNat n) (p3 : L.length = 16) (p4 : n ≤ 15) : Con false [] l Z (⟨"java/util/Arrays", "copyOfRangeByte", "([BII)[B"⟩ : MethodName) jdk_65_method_133_code 5 (some (.array .byte)) [] (rm4 1 1 16 18) #[(.ref t), (.int 0), (.int u)] h0 [] (rvl (Q_corb Z t u k L n h0)) := by
  refine conN G (plainFor_of_name pn5) O0 (fun m => ef8 m t (0 : Int32) u) ?_
  intro _ _ _ m_ _ _ _ D hml hret hlk hnm
  subst p2
  refine go_iload_n 1 (D d14_0) rfl rfl ?_
  refine go_iload_n 2 (D d14_1) rfl rfl ?_
  refine callS0 (cells' := 0) (slots' := 0) (Wd := 0) (argsL := [(.int 0), (.int (Int32.ofNat n))]) (rest := []) (pay_of (a0 := a0) (c_chkl l G (0 : Int32) (Int32.ofNat n) h0 O0 (ofn_nn (by omega))) (wk G 172) (wk G 165)) (wk G 170) (wk G 171) (wk G 165) (wk G 172) pd4 (sz hml) all0 sf00 (D d14_2) (k_n 5 rfl ?_)
  rintro  h1 rfl K2
  refine go_iload_n 6 (D d14_5) rfl rfl ?_
  refine go_iload_n 7 (D d14_6) rfl rfl ?_
  refine go_isub 8 (z := (Int32.ofNat n)) (D d14_7) rfl (Int32.sub_zero _) ?_
  refine go_istore_n 9 (ls' := #[vr t, vi 0, vi (Int32.ofNat n), vi (Int32.ofNat n), un]) (D d14_8) rfl rfl ?_
  refine go_iload_n 10 (D d14_9) rfl rfl ?_
  refine go_newPL 12 (cells' := 1) (slots' := 16) (cap := 16) (wk G 20) (by omega) (by omega) (by decide) (D d14_10) rfl rfl rfl (by decide) (by decide) (fun h3 a4 k5 g6 X7 A8 => ?_)
  refine go_astore 14 (ls' := #[vr t, vi 0, vi (Int32.ofNat n), vi (Int32.ofNat n), vr a4]) (D d14_12) rfl rfl rfl ?_
  refine go_aload_n 15 (D d14_14) rfl rfl rfl ?_
  refine go_iload_n 16 (D d14_15) rfl rfl ?_
  refine go_aload 18 (D d14_16) rfl rfl rfl ?_
  refine go_iconst 19 (v := 0) (D d14_18) rfl rfl ?_
  refine go_aload_n 20 (D d14_19) rfl rfl rfl ?_
  have K9 : Keep h0 h3 [] := ((Keep.refl h0 []).ext X7)
  have A10 := (p1.keep K9 nin0)
  refine go_arraylength 21 A10 (D d14_20) rfl ?_
  refine go_iload_n 22 (D d14_21) rfl rfl ?_
  refine go_isub 23 (z := (16 : Int32)) (D d14_22) rfl (by decide) ?_
  refine go_iload_n 24 (D d14_23) rfl rfl ?_
  refine go_old (fun O11 => ?_)
  refine callS0 (cells' := 1) (slots' := 16) (Wd := 4) (argsL := [(.int 16), (.int (Int32.ofNat n))]) (rest := [(.int 0), (.ref a4), (.int 0), (.ref t)]) (pay_of (a0 := a0) (c_minu l G (Int32.ofNat n) h3 O11 (show Int32.ofNat n < (16 : Int32) from ofn_lt (k := 16) (by omega) (by decide) (by omega))) (wk G 176) (wk G 175)) (wk G 173) (wk G 174) (wk G 175) (wk G 176) pd5 (sz hml) all0 sf00 (D d14_24) (k_v 27 rfl ?_)
  rintro _ h12 ⟨rfl, rfl⟩ K13
  refine go_acS 30 (Wd := 0) (wk G 177) (wk G 111) (wk G 109) (wk G 110) rfl A10 p3 (by omega) A8 (Nat.le_trans O0.2.1 (Nat.le_of_eq g6)) (sz hml) (by decide) (by decide) (by decide) (D d14_27) rfl (fun h14 K15 A16 => ?_)
  refine go_aload 32 (D d14_30) rfl rfl rfl ?_
  have K17 : Keep h0 h14 [] := (K9.trans K15 (allS (Or.inr (Nat.le_of_eq g6)) all0))
  refine go_areturn hret hlk rfl rfl (D d14_32) (by decide) (by decide) ⟨_, rfl, ⟨a4, k5, rfl, (Nat.le_of_eq g6), A16⟩⟩ K17
theorem ef9 (m : MethodId) (v0 : Addr) (v1 v2 : Int32) : entryFrame m #[(.ref v0), (.int v1), (.int v2)] 3 = mkF m 0 #[.val (.ref v0), .val (.int v1), .val (.int v2)] [] := by first | (simp [entryFrame, mkF, argsToLocals, Value.category]; done) | rfl
def Q_cor (Z : State) (t : Addr) (u : Int32) (k : ClassId) (L : List Value) (n : Nat) (h0 : Heap) (xv : Value) (h : Heap) : Prop := ∃ (r : Addr) (k2 : ClassId), (.ref r) = xv ∧ h0.size ≤ r ∧ Arv Z h r k2 (.byte) (Int32.ofNat n) (L.take n) (.int 0)
theorem c_cor (G : GH Z a0) (t : Addr) (u : Int32) (k : ClassId) (L : List Value) (n : Nat) (h0 : Heap) (O0 : Old Z Z.heap.size h0) (p1 : Arv Z h0 t k (.byte) (16 : Int32) L (.int 0)) (p2 : u = Int32.ofNat n) (p3 : L.length = 16) (p4 : n ≤ 15) : Con false [] l Z (⟨"java/util/Arrays", "copyOfRange", "([BII)[B"⟩ : MethodName) jdk_65_method_132_code 3 (some (.array .byte)) [] (rm4 2 1 16 34) #[(.ref t), (.int 0), (.int u)] h0 [] (rvl (Q_cor Z t u k L n h0)) := by
  refine conN G (plainFor_of_name pn5) O0 (fun m => ef9 m t (0 : Int32) u) ?_
  intro _ _ _ m_ _ _ _ D hml hret hlk hnm
  subst p2
  refine go_iload_n 1 (D d15_0) rfl rfl ?_
  refine go_ifF 4 (D d15_1) rfl (by decide) ?_
  refine go_iload_n 5 (D d15_4) rfl rfl ?_
  refine go_aload_n 6 (D d15_5) rfl rfl rfl ?_
  refine go_arraylength 7 p1 (D d15_6) rfl ?_
  refine go_icF 10 (D d15_7) rfl (XT.ii_eq_f (fun z => absurd (congrArg Int32.toInt z) (by rw [ofn_toInt (by omega)]; show ¬ ((n : Int) = 16); omega))) ?_
  refine go_aload_n 11 (D d15_10) rfl rfl rfl ?_
  refine go_iload_n 12 (D d15_11) rfl rfl ?_
  refine go_iload_n 13 (D d15_12) rfl rfl ?_
  refine callS0 (cells' := 1) (slots' := 16) (Wd := 0) (argsL := [(.ref t), (.int 0), (.int (Int32.ofNat n))]) (rest := []) (pay_of (a0 := a0) (c_corb l G t (Int32.ofNat n) k L n h0 O0 p1 rfl p3 p4) (wk G 169) (wk G 165)) (wk G 167) (wk G 168) (wk G 165) (wk G 169) pd6 (sz hml) all0 sf00 (D d15_13) (k_v 16 rfl ?_)
  rintro _ h1 ⟨r3, r4, rfl, f5, f6⟩ K2
  have K7 : Keep h0 h1 [] := ((Keep.refl h0 []).trans K2 all0)
  refine go_areturn hret hlk rfl rfl (D d15_16) (by decide) (by decide) ⟨_, rfl, ⟨r3, r4, rfl, f5, f6⟩⟩ K7
theorem ef10 (m : MethodId) (v0 v1 : Addr) : entryFrame m #[(.ref v0), (.ref v1), .null] 5 = mkF m 0 #[.val (.ref v0), .val (.ref v1), .val .null, .unset, .unset] [] := by first | (simp [entryFrame, mkF, argsToLocals, Value.category]; done) | rfl
def Q_strasb (Z : State) (a b t : Addr) (k : ClassId) (L : List Value) (n : Nat) (h0 : Heap) (h : Heap) : Prop := ∃ (r : Addr) (k2 : ClassId), Fld Z h a "java/lang/String" "value" "[B" (.ref r) ∧ Fld Z h a "java/lang/String" "coder" "B" (.int 0) ∧ Arv Z h r k2 (.byte) (Int32.ofNat n) (L.take n) (.int 0)
theorem c_strasb (G : GH Z a0) (a b : Addr) (t : Addr) (k : ClassId) (L : List Value) (n : Nat) (h0 : Heap) (O0 : Old Z Z.heap.size h0) (p1 : Exa Z h0 a "java/lang/String") (p2 : Z.heap.size ≤ a) (p3 : Fld Z h0 a "java/lang/String" "value" "[B" .null) (p4 : Fld Z h0 a "java/lang/String" "coder" "B" (.int 0)) (p5 : Exa Z h0 b "java/lang/StringBuilder") (p6 : t ≠ a) (p7 : Fld Z h0 b "java/lang/AbstractStringBuilder" "value" "[B" (.ref t)) (p8 : Fld Z h0 b "java/lang/AbstractStringBuilder" "coder" "B" (.int 0)) (p9 : Fld Z h0 b "java/lang/AbstractStringBuilder" "count" "I" (.int (Int32.ofNat n))) (p10 : Arv Z h0 t k (.byte) (16 : Int32) L (.int 0)) (p11 : L.length = 16) (p12 : n ≤ 15) : Con false [] l Z (⟨"java/lang/String", "<init>", "(Ljava/lang/AbstractStringBuilder;Ljava/lang/Void;)V"⟩ : MethodName) jdk_42_method_150_code 5 none [] (rm4 3 1 16 49) #[(.ref a), (.ref b), .null] h0 [a] (rno (Q_strasb Z a b t k L n h0)) := by
  refine conN G (plainFor_of_name pn4) O0 (fun m => ef10 m a b) ?_
  intro _ _ _ m_ _ _ _ D hml hret hlk hnm
  refine go_aload_n 1 (D d16_0) rfl rfl rfl ?_
  refine go_initO 4 (Wd := 0) (wk G 12) (wk G 13) (wk G 14) (sz hml) (by decide) (by decide) (by decide) (D d16_1) rfl ?_
  refine go_aload_n 5 (D d16_4) rfl rfl rfl ?_
  refine callV0 (cells' := 0) (slots' := 0) (Wd := 0) (argsL := []) (rest := []) (pay_of (a0 := a0) (c_getval l G b t h0 O0 p7) (wk G 153) (wk G 57)) p5 (wk G 149) (wk G 150) (wk G 152) (wk G 152) (wk G 151) pd7 (sz hml) all0 sf00 (D d16_5) (k_v 8 rfl ?_)
  rintro _ h1 ⟨rfl, rfl⟩ K2
  refine go_astore_n 9 (ls' := #[vr a, vr b, .val .null, vr t, un]) (D d16_8) rfl rfl rfl ?_
  refine go_aload_n 10 (D d16_9) rfl rfl rfl ?_
  refine callN0 (cells' := 0) (slots' := 0) (Wd := 0) (argsL := []) (rest := []) (pay_of (a0 := a0) (c_sblen l G b (Int32.ofNat n) h0 O0 p5 p9) (wk G 159) (wk G 49)) p5 (wk G 154) (wk G 155) (y := (⟨"java/lang/AbstractStringBuilder", "length", "()I"⟩ : MethodName)) (u := (⟨"java/lang/AbstractStringBuilder", "ensureCapacityInternal", "(I)V"⟩ : MethodName)) rfl (wk G 90) (wk G 157) (wk G 158) pd3 (sz hml) all0 sf00 (D d16_10) (k_v 13 rfl ?_)
  rintro _ h3 ⟨rfl, rfl⟩ K4
  refine go_istore 15 (ls' := #[vr a, vr b, .val .null, vr t, vi (Int32.ofNat n)]) (D d16_13) rfl rfl ?_
  refine go_aload_n 16 (D d16_15) rfl rfl rfl ?_
  refine callV0 (cells' := 0) (slots' := 0) (Wd := 0) (argsL := []) (rest := []) (pay_of (a0 := a0) (c_asblatin l G b h0 O0 p8) (wk G 132) (wk G 57)) p5 (wk G 162) (wk G 129) (wk G 131) (wk G 131) (wk G 130) pd8 (sz hml) all0 sf00 (D d16_16) (k_v 19 rfl ?_)
  rintro _ h5 ⟨rfl, rfl⟩ K6
  refine go_ifF 22 (D d16_19) rfl (by decide) ?_
  refine go_aload_n 23 (D d16_22) rfl rfl rfl ?_
  refine go_iconst 24 (v := 0) (D d16_23) rfl rfl ?_
  refine go_putF 27 (wk G 27) Via.refl p4 p1 (Or.inr ⟨(wk G 28), rfl, hnm⟩) (wk G 3) (ty := .byte) (v' := (.int 0)) (by decide) rfl (by decide) p2 (Or.inr rfl) (D d16_24) rfl (fun h7 W8 => ?_)
  have F9 := Fld.same W8 p4
  refine go_aload_n 28 (D d16_27) rfl rfl rfl ?_
  refine go_aload_n 29 (D d16_28) rfl rfl rfl ?_
  refine go_iconst 30 (v := 0) (D d16_29) rfl rfl ?_
  refine go_iload 32 (D d16_30) rfl rfl ?_
  have A10 := (p10.other W8 p6)
  refine go_old (fun O11 => ?_)
  refine callS0 (cells' := 1) (slots' := 16) (Wd := 1) (argsL := [(.ref t), (.int 0), (.int (Int32.ofNat n))]) (rest := [(.ref a)]) (pay_of (a0 := a0) (c_cor l G t (Int32.ofNat n) k L n h7 O11 A10 rfl p11 p12) (wk G 166) (wk G 165)) (wk G 163) (wk G 164) (wk G 165) (wk G 166) pd6 (sz hml) all0 sf00 (D d16_32) (k_v 35 rfl ?_)
  rintro _ h12 ⟨r14, r15, rfl, f16, f17⟩ K13
  have F18 := ((p3.other W8 (Or.inr (slot_ne (t := (.array .byte)) (t' := .byte) (Or.inr (wk G 30)) (Or.inr (wk G 28)) (by decide) (by decide) (by decide)))).keep K13 nin0)
  have E19 := ((p1.wr W8).keep K13)
  refine go_putF 38 (wk G 29) Via.refl F18 E19 (Or.inr ⟨(wk G 30), rfl, hnm⟩) (wk G 3) (ty := (.array .byte)) (v' := (.ref r14)) (by decide) rfl rfl p2 (Or.inr rfl) (D d16_35) rfl (fun h20 W21 => ?_)
  have F22 := Fld.same W21 F18
  refine go_goto 97 (D d16_38) (by decide) rfl ?_
  have K23 : Keep h0 h7 [a] := ((Keep.refl h0 [a]).wr W8 (Or.inl (by simp)))
  have K24 : Keep h0 h12 [a] := (K23.trans K13 all0)
  have K25 : Keep h0 h20 [a] := (K24.wr W21 (Or.inl (by simp)))
  have K26 : Keep h7 h12 [] := ((Keep.refl h7 []).trans K13 all0)
  have F27 := ((F9.keep K13 nin0).other W21 (Or.inr (slot_ne (t := .byte) (t' := (.array .byte)) (Or.inr (wk G 28)) (Or.inr (wk G 30)) (by decide) (by decide) (by decide))))
  have A28 := (f17.other W21 (Nat.ne_of_gt (Nat.lt_of_lt_of_le (Nat.lt_of_lt_of_le p1.lt K23.1) f16)))
  refine go_return hret hlk (D d16_97) (by decide) (by decide) ⟨rfl, ⟨r14, r15, F22, F27, A28⟩⟩ K25
def Q_strsb (Z : State) (a b t : Addr) (k : ClassId) (L : List Value) (n : Nat) (h0 : Heap) (h : Heap) : Prop := ∃ (r : Addr) (k2 : ClassId), Fld Z h a "java/lang/String" "value" "[B" (.ref r) ∧ Fld Z h a "java/lang/String" "coder" "B" (.int 0) ∧ Arv Z h r k2 (.byte) (Int32.ofNat n) (L.take n) (.int 0)
theorem c_strsb (G : GH Z a0) (a b : Addr) (t : Addr) (k : ClassId) (L : List Value) (n : Nat) (h0 : Heap) (O0 : Old Z Z.heap.size h0) (p1 : Exa Z h0 a "java/lang/String") (p2 : Z.heap.size ≤ a) (p3 : Fld Z h0 a "java/lang/String" "value" "[B" .null) (p4 : Fld Z h0 a "java/lang/String" "coder" "B" (.int 0)) (p5 : Exa Z h0 b "java/lang/StringBuilder") (p6 : t ≠ a) (p7 : Fld Z h0 b "java/lang/AbstractStringBuilder" "value" "[B" (.ref t)) (p8 : Fld Z h0 b "java/lang/AbstractStringBuilder" "coder" "B" (.int 0)) (p9 : Fld Z h0 b "java/lang/AbstractStringBuilder" "count" "I" (.int (Int32.ofNat n))) (p10 : Arv Z h0 t k (.byte) (16 : Int32) L (.int 0)) (p11 : L.length = 16) (p12 : n ≤ 15) : Con false [] l Z (⟨"java/lang/String", "<init>", "(Ljava/lang/StringBuilder;)V"⟩ : MethodName) jdk_42_method_53_code 2 none [] (rm4 4 1 16 65) #[(.ref a), (.ref b)] h0 [a] (rno (Q_strsb Z a b t k L n h0)) := by
  refine conN G (plainFor_of_name pn4) O0 (fun m => ef6 m a b) ?_
  intro _ _ _ m_ _ _ _ D hml hret hlk hnm
  refine go_aload_n 1 (D d17_0) rfl rfl rfl ?_
  refine go_aload_n 2 (D d17_1) rfl rfl rfl ?_
  refine go_aconst_null 3 (D d17_2) rfl ?_
  refine callI0 (cells' := 1) (slots' := 16) (Wd := 0) (argsL := [(.ref b), .null]) (rest := []) (pay_of (a0 := a0) (c_strasb l G a b t k L n h0 O0 p1 p2 p3 p4 p5 p6 p7 p8 p9 p10 p11 p12) (wk G 148) (wk G 4)) rfl (wk G 146) (wk G 147) (wk G 148) pd9 (sz hml) (allS p2 all0) (fun _ hal => (sfS safe_nil sf0)) (D d17_3) (k_n 6 rfl ?_)
  rintro  h1 ⟨r3, r4, f5, f6, f7⟩ K2
  have K8 : Keep h0 h1 [a] := ((Keep.refl h0 [a]).trans K2 (allS (Or.inl (by simp)) all0))
  refine go_return hret hlk (D d17_6) (by decide) (by decide) ⟨rfl, ⟨r3, r4, f5, f6, f7⟩⟩ K8
def Q_sbts (Z : State) (b t : Addr) (k : ClassId) (L : List Value) (n : Nat) (h0 : Heap) (xv : Value) (h : Heap) : Prop := ∃ (a : Addr) (r : Addr) (k2 : ClassId), (.ref a) = xv ∧ h0.size ≤ a ∧ Exa Z h a "java/lang/String" ∧ Fld Z h a "java/lang/String" "value" "[B" (.ref r) ∧ Fld Z h a "java/lang/String" "coder" "B" (.int 0) ∧ Arv Z h r k2 (.byte) (Int32.ofNat n) (L.take n) (.int 0)
theorem c_sbts (G : GH Z a0) (b : Addr) (t : Addr) (k : ClassId) (L : List Value) (n : Nat) (h0 : Heap) (O0 : Old Z Z.heap.size h0) (p1 : Exa Z h0 b "java/lang/StringBuilder") (p2 : Fld Z h0 b "java/lang/AbstractStringBuilder" "value" "[B" (.ref t)) (p3 : Fld Z h0 b "java/lang/AbstractStringBuilder" "coder" "B" (.int 0)) (p4 : Fld Z h0 b "java/lang/AbstractStringBuilder" "count" "I" (.int (Int32.ofNat n))) (p5 : Arv Z h0 t k (.byte) (16 : Int32) L (.int 0)) (p6 : L.length = 16) (p7 : n ≤ 15) : Con false [] l Z (⟨"java/lang/StringBuilder", "toString", "()Ljava/lang/String;"⟩ : MethodName) jdk_67_method_42_code 1 (some (.object "java/lang/String")) [] (rm4 5 2 20 79) #[(.ref b)] h0 [] (rvl (Q_sbts Z b t k L n h0)) := by
  refine conN G (plainFor_of_name pn3) O0 (fun m => ef4 m b) ?_
  intro _ _ _ m_ _ _ _ D hml hret hlk hnm
  refine go_newO 3 (cells' := 1) (slots' := 4) (wk G 142) (wk G 3) (wk G 4) (D d18_0) rfl rfl rfl (by decide) (by decide) (fun h1 a2 g3 X4 E5 D6 U7 => ?_)
  refine go_dup 4 (D d18_3) rfl rfl ?_
  refine go_aload_n 5 (D d18_4) rfl rfl rfl ?_
  have K8 : Keep h0 h1 [] := ((Keep.refl h0 []).ext X4)
  have F9 := (p4.keep K8 nin0)
  have F10 := (p2.keep K8 nin0)
  have F11 := D6 (Or.inr (wk G 30)) (ty := (.array .byte)) (by decide)
  have F12 := D6 (Or.inr (wk G 28)) (ty := .byte) (by decide)
  have E13 := (p1.keep K8)
  have F14 := (p3.keep K8 nin0)
  have A15 := (p5.keep K8 nin0)
  refine go_old (fun O16 => ?_)
  refine callI0 (cells' := 2) (slots' := 20) (Wd := 1) (argsL := [(.ref b)]) (rest := [(.ref a2)]) (pay_of (a0 := a0) (c_strsb l G a2 b t k L n h1 O16 E5 (Nat.le_trans O0.2.1 (Nat.le_of_eq g3)) F11 F12 E13 (Nat.ne_of_lt (Nat.lt_of_lt_of_le p5.lt (Nat.le_of_eq g3))) F10 F14 F9 A15 p6 p7) (wk G 145) (wk G 4)) rfl (wk G 143) (wk G 144) (wk G 145) pd10 (sz hml) (allS (Nat.le_trans O0.2.1 (Nat.le_of_eq g3)) all0) (fun _ hal => (sfS safe_nil sf0)) (D d18_5) (k_n 8 rfl ?_)
  rintro  h17 ⟨r19, r20, f21, f22, f23⟩ K18
  have K24 : Keep h0 h17 [] := (K8.trans K18 (allS (Or.inr (Nat.le_of_eq g3)) all0))
  have E25 := (E5.keep K18)
  refine go_areturn hret hlk rfl rfl (D d18_8) (by decide) (by decide) ⟨_, rfl, ⟨a2, r19, r20, rfl, (Nat.le_of_eq g3), E25, f21, f22, f23⟩⟩ K24
theorem ef11 (m : MethodId) (v0 v1 : Addr) (v2 : Int32) : entryFrame m #[(.ref v0), (.ref v1), (.int v2)] 3 = mkF m 0 #[.val (.ref v0), .val (.ref v1), .val (.int v2)] [] := by first | (simp [entryFrame, mkF, argsToLocals, Value.category]; done) | rfl
def Q_hpinit (Z : State) (a s : Addr) (q : Int32) (h0 : Heap) (h : Heap) : Prop := Fld Z h a "com/example/onceward/onceward/HostPort" "host" "Ljava/lang/String;" (.ref s) ∧ Fld Z h a "com/example/onceward/onceward/HostPort" "port" "I" (.int q)
theorem c_hpinit (G : GH Z a0) (a s : Addr) (q : Int32)  (h0 : Heap) (O0 : Old Z Z.heap.size h0) (p1 : Exa Z h0 a "com/example/onceward/onceward/HostPort") (p2 : Z.heap.size ≤ a) (p3 : Fld Z h0 a "com/example/onceward/onceward/HostPort" "host" "Ljava/lang/String;" .null) (p4 : Fld Z h0 a "com/example/onceward/onceward/HostPort" "port" "I" (.int 0)) : Con false [] l Z (⟨"com/example/onceward/onceward/HostPort", "<init>", "(Ljava/lang/String;I)V"⟩ : MethodName) prog_9_method_1_code 3 none [] (rm4 1 0 0 12) #[(.ref a), (.ref s), (.int q)] h0 [a] (rno (Q_hpinit Z a s q h0)) := by
  refine conN G (plainFor_of_name pn6) O0 (fun m => ef11 m a s q) ?_
  intro _ _ _ m_ _ _ _ D hml hret hlk hnm
  refine go_aload_n 1 (D d19_0) rfl rfl rfl ?_
  refine go_initO 4 (Wd := 0) (wk G 37) (wk G 13) (wk G 14) (sz hml) (by decide) (by decide) (by decide) (D d19_1) rfl ?_
  refine go_aload_n 5 (D d19_4) rfl rfl rfl ?_
  refine go_aload_n 6 (D d19_5) rfl rfl rfl ?_
  refine go_putF 9 (wk G 38) Via.refl p3 p1 (Or.inr ⟨(wk G 39), rfl, hnm⟩) (wk G 32) (ty := (.object "java/lang/String")) (v' := (.ref s)) (by decide) rfl rfl p2 (Or.inr rfl) (D d19_6) rfl (fun h1 W2 => ?_)
  have F3 := Fld.same W2 p3
  refine go_aload_n 10 (D d19_9) rfl rfl rfl ?_
  refine go_iload_n 11 (D d19_10) rfl rfl ?_
  have F4 := (p4.other W2 (Or.inr (slot_ne (t := .int) (t' := (.object "java/lang/String")) (Or.inr (wk G 41)) (Or.inr (wk G 39)) (by decide) (by decide) (by decide))))
  have E5 := (p1.wr W2)
  refine go_putF 14 (wk G 40) Via.refl F4 E5 (Or.inr ⟨(wk G 41), rfl, hnm⟩) (wk G 32) (ty := .int) (v' := (.int q)) (by decide) rfl rfl p2 (Or.inr rfl) (D d19_11) rfl (fun h6 W7 => ?_)
  have F8 := Fld.same W7 F4
  have K9 : Keep h0 h1 [a] := ((Keep.refl h0 [a]).wr W2 (Or.inl (by simp)))
  have K10 : Keep h0 h6 [a] := (K9.wr W7 (Or.inl (by simp)))
  have F11 := (F3.other W7 (Or.inr (slot_ne (t := (.object "java/lang/String")) (t' := .int) (Or.inr (wk G 39)) (Or.inr (wk G 41)) (by decide) (by decide) (by decide))))
  refine go_return hret hlk (D d19_14) (by decide) (by decide) ⟨rfl, ⟨F11, F8⟩⟩ K10
theorem ef12 (m : MethodId) (v0 v1 : Addr) (v2 v3 : Int32) : entryFrame m #[(.ref v0), (.ref v1), (.int v2), (.int v3), .null] 6 = mkF m 0 #[.val (.ref v0), .val (.ref v1), .val (.int v2), .val (.int v3), .val .null, .unset] [] := by first | (simp [entryFrame, mkF, argsToLocals, Value.category]; done) | rfl
def Q_new0in (Z : State) (a b : Addr) (h0 : Heap) (h : Heap) : Prop := Str Z h a []
theorem c_new0in (G : GH Z a0) (a b : Addr)  (h0 : Heap) (O0 : Old Z Z.heap.size h0) (p1 : Exa Z h0 a "java/lang/String") (p2 : Z.heap.size ≤ a) (p3 : Fld Z h0 a "java/lang/String" "value" "[B" .null) (p4 : Fld Z h0 a "java/lang/String" "coder" "B" (.int 0)) : Con true EL1 l Z (⟨"java/lang/String", "<init>", "([CIILjava/lang/Void;)V"⟩ : MethodName) jdk_42_method_149_code 6 none [] (rm4 1 4 8 12) #[(.ref a), (.ref b), (.int 0), (.int 0), .null] h0 [a] (rno (Q_new0in Z a b h0)) := by
  refine conW G (plainFor_of_name pn4) O0 (fun m => ef12 m a b (0 : Int32) (0 : Int32)) ?_
  intro _ _ _ m_ _ _ _ D hml hret hlk hnm
  refine go_aload_n 1 (D d20_0) rfl rfl rfl ?_
  refine go_initO 4 (Wd := 0) (wk G 12) (wk G 13) (wk G 14) (sz hml) (by decide) (by decide) (by decide) (D d20_1) rfl ?_
  refine go_iload_n 5 (D d20_4) rfl rfl ?_
  refine go_ifF 8 (D d20_5) rfl (by decide) ?_
  refine go_empty G rfl (by decide) hnm rfl (wk G 222) (wk G 29) (wk G 27) (wk G 30) (wk G 28) (wk G 3) p1 p3 p4 p2 (D d20_8) (D d20_9) (D d20_11) (D d20_14) (D d20_17) (D d20_18) (D d20_20) (D d20_23) (by decide) (by decide) (fun h1 S2 K3 => ?_)
  have K4 : Keep h0 h1 [a] := ((Keep.refl h0 [a]).trans K3 (allS (Or.inl (by simp)) all0))
  refine go_return hret hlk (D d20_26) (by decide) (by decide) ⟨rfl, S2⟩ K4
def Q_new0 (Z : State) (a b : Addr) (k : ClassId) (h0 : Heap) (h : Heap) : Prop := Str Z h a []
theorem c_new0 (G : GH Z a0) (a b : Addr) (k : ClassId) (h0 : Heap) (O0 : Old Z Z.heap.size h0) (p1 : Exa Z h0 a "java/lang/String") (p2 : Z.heap.size ≤ a) (p3 : Fld Z h0 a "java/lang/String" "value" "[B" .null) (p4 : Fld Z h0 a "java/lang/String" "coder" "B" (.int 0)) (p5 : Arv Z h0 b k (.char) (0 : Int32) [] (.int 0)) : Con true EL1 l Z (⟨"java/lang/String", "<init>", "([C)V"⟩ : MethodName) jdk_42_method_3_code 2 none [] (rm4 2 4 8 29) #[(.ref a), (.ref b)] h0 [a] (rno (Q_new0 Z a b k h0)) := by
  refine conW G (plainFor_of_name pn4) O0 (fun m => ef6 m a b) ?_
  intro _ _ _ m_ _ _ _ D hml hret hlk hnm
  refine go_aload_n 1 (D d21_0) rfl rfl rfl ?_
  refine go_aload_n 2 (D d21_1) rfl rfl rfl ?_
  refine go_iconst 3 (v := 0) (D d21_2) rfl rfl ?_
  refine go_aload_n 4 (D d21_3) rfl rfl rfl ?_
  refine go_arraylength 5 p5 (D d21_4) rfl ?_
  refine go_aconst_null 6 (D d21_5) rfl ?_
  refine callIW0 rfl (cells' := 4) (slots' := 8) (Wd := 0) (argsL := [(.ref b), (.int 0), (.int 0), .null]) (rest := []) (payW_of (a0 := a0) (c_new0in l G a b h0 O0 p1 p2 p3 p4) (wk G 11) (wk G 4) (ew1 G)) rfl (wk G 8) (wk G 9) (wk G 11) pd11 (sz hml) (allS p2 all0) (D d21_6) (k_n 9 rfl ?_)
  rintro  h1 f3 K2
  have K4 : Keep h0 h1 [a] := ((Keep.refl h0 [a]).trans K2 (allS (Or.inl (by simp)) all0))
  refine go_return hret hlk (D d21_9) (by decide) (by decide) ⟨rfl, f3⟩ K4
theorem ef13 (m : MethodId) (v0 : Int64) : entryFrame m #[(.long v0)] 2 = mkF m 0 #[.val (.long v0), .second] [] := by first | (simp [entryFrame, mkF, argsToLocals, Value.category]; done) | rfl
def Q_numdig (Z : State) (v : Int64) (p : Int32) (h0 : Heap) (xv : Value) (h : Heap) : Prop := ∃ (r : Int32), (.int r) = xv ∧ h0 = h ∧ r = Int32.ofNat (ndg (mag p))
theorem c_numdig (G : GH Z a0) (v : Int64) (p : Int32) (h0 : Heap) (O0 : Old Z Z.heap.size h0) (p1 : v = vabs p) : Con false [] l Z (⟨"com/example/onceward/onceward/HostPortToStringPinLaw", "numDigits", "(J)I"⟩ : MethodName) method_3_code 2 (some .int) [] (rm4 0 0 0 0) #[(.long v)] h0 [] (rvl (Q_numdig Z v p h0)) := by
  refine conN G (plainFor_of_name pn7) O0 (fun m => ef13 m v) ?_
  intro _ _ _ m_ _ _ _ D hml hret hlk hnm
  subst p1
  refine go_lload_n 1 (D d22_0) rfl rfl ?_
  refine go_ldcJ 4 (v := (10 : Int64)) (wk G 182) (D d22_1) rfl ?_
  refine go_lcmp 5 (D d22_4) rfl ?_
  by_cases cz1 : (vabs p) < (10 : Int64)
  · refine go_ifF 8 (D d22_5) rfl (XT.ll_ge_f cz1) ?_
    refine go_iconst 9 (v := 1) (D d22_8) rfl rfl ?_
    refine go_ireturn hret hlk rfl (by simp) (D d22_9) (by decide) (by decide) ⟨_, rfl, ⟨(1 : Int32), rfl, rfl, (show (1 : Int32) = Int32.ofNat (ndg (mag p)) from by rw [nd_of (k := 1) (Or.inr rfl) (Or.inl ((thr_l (k := 10) (by decide)).mp cz1)) (by decide) (by decide)]; rfl)⟩⟩ (Keep.refl h0 [])
  · refine go_ifT 10 (D d22_5) (by decide) rfl (XT.ll_ge_t cz1) ?_
    refine go_lload_n 11 (D d22_10) rfl rfl ?_
    refine go_ldcJ 14 (v := (100 : Int64)) (wk G 213) (D d22_11) rfl ?_
    refine go_lcmp 15 (D d22_14) rfl ?_
    by_cases cz2 : (vabs p) < (100 : Int64)
    · refine go_ifF 18 (D d22_15) rfl (XT.ll_ge_f cz2) ?_
      refine go_iconst 19 (v := 2) (D d22_18) rfl rfl ?_
      refine go_ireturn hret hlk rfl (by simp) (D d22_19) (by decide) (by decide) ⟨_, rfl, ⟨(2 : Int32), rfl, rfl, (show (2 : Int32) = Int32.ofNat (ndg (mag p)) from by rw [nd_of (k := 2) (Or.inl (Nat.le_of_not_lt (fun z => cz1 ((thr_l (k := 10) (by decide)).mpr z)))) (Or.inl ((thr_l (k := 100) (by decide)).mp cz2)) (by decide) (by decide)]; rfl)⟩⟩ (Keep.refl h0 [])
    · refine go_ifT 20 (D d22_15) (by decide) rfl (XT.ll_ge_t cz2) ?_
      refine go_lload_n 21 (D d22_20) rfl rfl ?_
      refine go_ldcJ 24 (v := (1000 : Int64)) (wk G 214) (D d22_21) rfl ?_
      refine go_lcmp 25 (D d22_24) rfl ?_
      by_cases cz3 : (vabs p) < (1000 : Int64)
      · refine go_ifF 28 (D d22_25) rfl (XT.ll_ge_f cz3) ?_
        refine go_iconst 29 (v := 3) (D d22_28) rfl rfl ?_
        refine go_ireturn hret hlk rfl (by simp) (D d22_29) (by decide) (by decide) ⟨_, rfl, ⟨(3 : Int32), rfl, rfl, (show (3 : Int32) = Int32.ofNat (ndg (mag p)) from by rw [nd_of (k := 3) (Or.inl (Nat.le_of_not_lt (fun z => cz2 ((thr_l (k := 100) (by decide)).mpr z)))) (Or.inl ((thr_l (k := 1000) (by decide)).mp cz3)) (by decide) (by decide)]; rfl)⟩⟩ (Keep.refl h0 [])
      · refine go_ifT 30 (D d22_25) (by decide) rfl (XT.ll_ge_t cz3) ?_
        refine go_lload_n 31 (D d22_30) rfl rfl ?_
        refine go_ldcJ 34 (v := (10000 : Int64)) (wk G 215) (D d22_31) rfl ?_
        refine go_lcmp 35 (D d22_34) rfl ?_
        by_cases cz4 : (vabs p) < (10000 : Int64)
        · refine go_ifF 38 (D d22_35) rfl (XT.ll_ge_f cz4) ?_
          refine go_iconst 39 (v := 4) (D d22_38) rfl rfl ?_
          refine go_ireturn hret hlk rfl (by simp) (D d22_39) (by decide) (by decide) ⟨_, rfl, ⟨(4 : Int32), rfl, rfl, (show (4 : Int32) = Int32.ofNat (ndg (mag p)) from by rw [nd_of (k := 4) (Or.inl (Nat.le_of_not_lt (fun z => cz3 ((thr_l (k := 1000) (by decide)).mpr z)))) (Or.inl ((thr_l (k := 10000) (by decide)).mp cz4)) (by decide) (by decide)]; rfl)⟩⟩ (Keep.refl h0 [])
        · refine go_ifT 40 (D d22_35) (by decide) rfl (XT.ll_ge_t cz4) ?_
          refine go_lload_n 41 (D d22_40) rfl rfl ?_
          refine go_ldcJ 44 (v := (100000 : Int64)) (wk G 216) (D d22_41) rfl ?_
          refine go_lcmp 45 (D d22_44) rfl ?_
          by_cases cz5 : (vabs p) < (100000 : Int64)
          · refine go_ifF 48 (D d22_45) rfl (XT.ll_ge_f cz5) ?_
            refine go_iconst 49 (v := 5) (D d22_48) rfl rfl ?_
            refine go_ireturn hret hlk rfl (by simp) (D d22_49) (by decide) (by decide) ⟨_, rfl, ⟨(5 : Int32), rfl, rfl, (show (5 : Int32) = Int32.ofNat (ndg (mag p)) from by rw [nd_of (k := 5) (Or.inl (Nat.le_of_not_lt (fun z => cz4 ((thr_l (k := 10000) (by decide)).mpr z)))) (Or.inl ((thr_l (k := 100000) (by decide)).mp cz5)) (by decide) (by decide)]; rfl)⟩⟩ (Keep.refl h0 [])
          · refine go_ifT 50 (D d22_45) (by decide) rfl (XT.ll_ge_t cz5) ?_
            refine go_lload_n 51 (D d22_50) rfl rfl ?_
            refine go_ldcJ 54 (v := (1000000 : Int64)) (wk G 217) (D d22_51) rfl ?_
            refine go_lcmp 55 (D d22_54) rfl ?_
            by_cases cz6 : (vabs p) < (1000000 : Int64)
            · refine go_ifF 58 (D d22_55) rfl (XT.ll_ge_f cz6) ?_
              refine go_bipush 60 (v := 6) (D d22_58) rfl rfl ?_
              refine go_ireturn hret hlk rfl (by simp) (D d22_60) (by decide) (by decide) ⟨_, rfl, ⟨(6 : Int32), rfl, rfl, (show (6 : Int32) = Int32.ofNat (ndg (mag p)) from by rw [nd_of (k := 6) (Or.inl (Nat.le_of_not_lt (fun z => cz5 ((thr_l (k := 100000) (by decide)).mpr z)))) (Or.inl ((thr_l (k := 1000000) (by decide)).mp cz6)) (by decide) (by decide)]; rfl)⟩⟩ (Keep.refl h0 [])
            · refine go_ifT 61 (D d22_55) (by decide) rfl (XT.ll_ge_t cz6) ?_
              refine go_lload_n 62 (D d22_61) rfl rfl ?_
              refine go_ldcJ 65 (v := (10000000 : Int64)) (wk G 218) (D d22_62) rfl ?_
              refine go_lcmp 66 (D d22_65) rfl ?_
              by_cases cz7 : (vabs p) < (10000000 : Int64)
              · refine go_ifF 69 (D d22_66) rfl (XT.ll_ge_f cz7) ?_
                refine go_bipush 71 (v := 7) (D d22_69) rfl rfl ?_
                refine go_ireturn hret hlk rfl (by simp) (D d22_71) (by decide) (by decide) ⟨_, rfl, ⟨(7 : Int32), rfl, rfl, (show (7 : Int32) = Int32.ofNat (ndg (mag p)) from by rw [nd_of (k := 7) (Or.inl (Nat.le_of_not_lt (fun z => cz6 ((thr_l (k := 1000000) (by decide)).mpr z)))) (Or.inl ((thr_l (k := 10000000) (by decide)).mp cz7)) (by decide) (by decide)]; rfl)⟩⟩ (Keep.refl h0 [])
              · refine go_ifT 72 (D d22_66) (by decide) rfl (XT.ll_ge_t cz7) ?_
                refine go_lload_n 73 (D d22_72) rfl rfl ?_
                refine go_ldcJ 76 (v := (100000000 : Int64)) (wk G 219) (D d22_73) rfl ?_
                refine go_lcmp 77 (D d22_76) rfl ?_
                by_cases cz8 : (vabs p) < (100000000 : Int64)
                · refine go_ifF 80 (D d22_77) rfl (XT.ll_ge_f cz8) ?_
                  refine go_bipush 82 (v := 8) (D d22_80) rfl rfl ?_
                  refine go_ireturn hret hlk rfl (by simp) (D d22_82) (by decide) (by decide) ⟨_, rfl, ⟨(8 : Int32), rfl, rfl, (show (8 : Int32) = Int32.ofNat (ndg (mag p)) from by rw [nd_of (k := 8) (Or.inl (Nat.le_of_not_lt (fun z => cz7 ((thr_l (k := 10000000) (by decide)).mpr z)))) (Or.inl ((thr_l (k := 100000000) (by decide)).mp cz8)) (by decide) (by decide)]; rfl)⟩⟩ (Keep.refl h0 [])
                · refine go_ifT 83 (D d22_77) (by decide) rfl (XT.ll_ge_t cz8) ?_
                  refine go_lload_n 84 (D d22_83) rfl rfl ?_
                  refine go_ldcJ 87 (v := (1000000000 : Int64)) (wk G 220) (D d22_84) rfl ?_
                  refine go_lcmp 88 (D d22_87) rfl ?_
                  by_cases cz9 : (vabs p) < (1000000000 : Int64)
                  · refine go_ifF 91 (D d22_88) rfl (XT.ll_ge_f cz9) ?_
                    refine go_bipush 93 (v := 9) (D d22_91) rfl rfl ?_
                    refine go_ireturn hret hlk rfl (by simp) (D d22_93) (by decide) (by decide) ⟨_, rfl, ⟨(9 : Int32), rfl, rfl, (show (9 : Int32) = Int32.ofNat (ndg (mag p)) from by rw [nd_of (k := 9) (Or.inl (Nat.le_of_not_lt (fun z => cz8 ((thr_l (k := 100000000) (by decide)).mpr z)))) (Or.inl ((thr_l (k := 1000000000) (by decide)).mp cz9)) (by decide) (by decide)]; rfl)⟩⟩ (Keep.refl h0 [])
                  · refine go_ifT 94 (D d22_88) (by decide) rfl (XT.ll_ge_t cz9) ?_
                    refine go_bipush 96 (v := 10) (D d22_94) rfl rfl ?_
                    refine go_ireturn hret hlk rfl (by simp) (D d22_96) (by decide) (by decide) ⟨_, rfl, ⟨(10 : Int32), rfl, rfl, (show (10 : Int32) = Int32.ofNat (ndg (mag p)) from by rw [nd_of (k := 10) (Or.inl (Nat.le_of_not_lt (fun z => cz9 ((thr_l (k := 1000000000) (by decide)).mpr z)))) (Or.inr rfl) (by decide) (by decide)]; rfl)⟩⟩ (Keep.refl h0 [])
theorem ef14 (m : MethodId) (v0 : Int32) : entryFrame m #[(.int v0)] 2 = mkF m 0 #[.val (.int v0), .unset] [] := by first | (simp [entryFrame, mkF, argsToLocals, Value.category]; done) | rfl
def Q_pow10 (Z : State) (u : Int32) (n : Nat) (h0 : Heap) (xv : Value) (h : Heap) : Prop := (.long (p10 n)) = xv
theorem c_pow10 (G : GH Z a0) (u : Int32) (n : Nat) (h0 : Heap) (O0 : Old Z Z.heap.size h0) (p1 : u = Int32.ofNat n) (p2 : n < 10) : Con false [] l Z (⟨"com/example/onceward/onceward/HostPortToStringPinLaw", "pow10", "(I)J"⟩ : MethodName) method_4_code 2 (some .long) [] (rm4 0 1 10 0) #[(.int u)] h0 [] (rvl (Q_pow10 Z u n h0)) := by
  refine conN G (plainFor_of_name pn7) O0 (fun m => ef14 m u) ?_
  intro _ _ _ m_ _ _ _ D hml hret hlk hnm
  subst p1
  refine go_bipush 2 (v := 10) (D d23_0) rfl rfl ?_
  refine go_newP 4 (cells' := 1) (slots' := 10) (cap := 10) (vs := [(.long (0 : Int64)), (.long (0 : Int64)), (.long (0 : Int64)), (.long (0 : Int64)), (.long (0 : Int64)), (.long (0 : Int64)), (.long (0 : Int64)), (.long (0 : Int64)), (.long (0 : Int64)), (.long (0 : Int64))]) (ty := .long) (dv := .long 0) (wk G 212) rfl rfl (D d23_2) rfl (by decide) rfl (by decide) rfl rfl rfl (by decide) (by decide) (fun h1 a2 k6 g3 X4 A5 => ?_)
  refine go_dup 5 (D d23_4) rfl rfl ?_
  refine go_iconst 6 (v := 0) (D d23_5) rfl rfl ?_
  refine go_lconst 7 (v := 1) (D d23_6) rfl rfl ?_
  refine go_stJ 8 (i := 0) (vs' := [(.long (1 : Int64)), (.long (0 : Int64)), (.long (0 : Int64)), (.long (0 : Int64)), (.long (0 : Int64)), (.long (0 : Int64)), (.long (0 : Int64)), (.long (0 : Int64)), (.long (0 : Int64)), (.long (0 : Int64))]) A5 (Nat.le_trans O0.2.1 (Nat.le_of_eq g3)) (by decide) (by decide) rfl (nb rfl) rfl (D d23_7) rfl (fun h7 W8 A9 => ?_)
  refine go_dup 9 (D d23_8) rfl rfl ?_
  refine go_iconst 10 (v := 1) (D d23_9) rfl rfl ?_
  refine go_ldcJ 13 (v := (10 : Int64)) (wk G 182) (D d23_10) rfl ?_
  refine go_stJ 14 (i := 1) (vs' := [(.long (1 : Int64)), (.long (10 : Int64)), (.long (0 : Int64)), (.long (0 : Int64)), (.long (0 : Int64)), (.long (0 : Int64)), (.long (0 : Int64)), (.long (0 : Int64)), (.long (0 : Int64)), (.long (0 : Int64))]) A9 (Nat.le_trans O0.2.1 (Nat.le_of_eq g3)) (by decide) (by decide) rfl (nb rfl) rfl (D d23_13) rfl (fun h10 W11 A12 => ?_)
  refine go_dup 15 (D d23_14) rfl rfl ?_
  refine go_iconst 16 (v := 2) (D d23_15) rfl rfl ?_
  refine go_ldcJ 19 (v := (100 : Int64)) (wk G 213) (D d23_16) rfl ?_
  refine go_stJ 20 (i := 2) (vs' := [(.long (1 : Int64)), (.long (10 : Int64)), (.long (100 : Int64)), (.long (0 : Int64)), (.long (0 : Int64)), (.long (0 : Int64)), (.long (0 : Int64)), (.long (0 : Int64)), (.long (0 : Int64)), (.long (0 : Int64))]) A12 (Nat.le_trans O0.2.1 (Nat.le_of_eq g3)) (by decide) (by decide) rfl (nb rfl) rfl (D d23_19) rfl (fun h13 W14 A15 => ?_)
  refine go_dup 21 (D d23_20) rfl rfl ?_
  refine go_iconst 22 (v := 3) (D d23_21) rfl rfl ?_
  refine go_ldcJ 25 (v := (1000 : Int64)) (wk G 214) (D d23_22) rfl ?_
  refine go_stJ 26 (i := 3) (vs' := [(.long (1 : Int64)), (.long (10 : Int64)), (.long (100 : Int64)), (.long (1000 : Int64)), (.long (0 : Int64)), (.long (0 : Int64)), (.long (0 : Int64)), (.long (0 : Int64)), (.long (0 : Int64)), (.long (0 : Int64))]) A15 (Nat.le_trans O0.2.1 (Nat.le_of_eq g3)) (by decide) (by decide) rfl (nb rfl) rfl (D d23_25) rfl (fun h16 W17 A18 => ?_)
  refine go_dup 27 (D d23_26) rfl rfl ?_
  refine go_iconst 28 (v := 4) (D d23_27) rfl rfl ?_
  refine go_ldcJ 31 (v := (10000 : Int64)) (wk G 215) (D d23_28) rfl ?_
  refine go_stJ 32 (i := 4) (vs' := [(.long (1 : Int64)), (.long (10 : Int64)), (.long (100 : Int64)), (.long (1000 : Int64)), (.long (10000 : Int64)), (.long (0 : Int64)), (.long (0 : Int64)), (.long (0 : Int64)), (.long (0 : Int64)), (.long (0 : Int64))]) A18 (Nat.le_trans O0.2.1 (Nat.le_of_eq g3)) (by decide) (by decide) rfl (nb rfl) rfl (D d23_31) rfl (fun h19 W20 A21 => ?_)
  refine go_dup 33 (D d23_32) rfl rfl ?_
  refine go_iconst 34 (v := 5) (D d23_33) rfl rfl ?_
  refine go_ldcJ 37 (v := (100000 : Int64)) (wk G 216) (D d23_34) rfl ?_
  refine go_stJ 38 (i := 5) (vs' := [(.long (1 : Int64)), (.long (10 : Int64)), (.long (100 : Int64)), (.long (1000 : Int64)), (.long (10000 : Int64)), (.long (100000 : Int64)), (.long (0 : Int64)), (.long (0 : Int64)), (.long (0 : Int64)), (.long (0 : Int64))]) A21 (Nat.le_trans O0.2.1 (Nat.le_of_eq g3)) (by decide) (by decide) rfl (nb rfl) rfl (D d23_37) rfl (fun h22 W23 A24 => ?_)
  refine go_dup 39 (D d23_38) rfl rfl ?_
  refine go_bipush 41 (v := 6) (D d23_39) rfl rfl ?_
  refine go_ldcJ 44 (v := (1000000 : Int64)) (wk G 217) (D d23_41) rfl ?_
  refine go_stJ 45 (i := 6) (vs' := [(.long (1 : Int64)), (.long (10 : Int64)), (.long (100 : Int64)), (.long (1000 : Int64)), (.long (10000 : Int64)), (.long (100000 : Int64)), (.long (1000000 : Int64)), (.long (0 : Int64)), (.long (0 : Int64)), (.long (0 : Int64))]) A24 (Nat.le_trans O0.2.1 (Nat.le_of_eq g3)) (by decide) (by decide) rfl (nb rfl) rfl (D d23_44) rfl (fun h25 W26 A27 => ?_)
  refine go_dup 46 (D d23_45) rfl rfl ?_
  refine go_bipush 48 (v := 7) (D d23_46) rfl rfl ?_
  refine go_ldcJ 51 (v := (10000000 : Int64)) (wk G 218) (D d23_48) rfl ?_
  refine go_stJ 52 (i := 7) (vs' := [(.long (1 : Int64)), (.long (10 : Int64)), (.long (100 : Int64)), (.long (1000 : Int64)), (.long (10000 : Int64)), (.long (100000 : Int64)), (.long (1000000 : Int64)), (.long (10000000 : Int64)), (.long (0 : Int64)), (.long (0 : Int64))]) A27 (Nat.le_trans O0.2.1 (Nat.le_of_eq g3)) (by decide) (by decide) rfl (nb rfl) rfl (D d23_51) rfl (fun h28 W29 A30 => ?_)
  refine go_dup 53 (D d23_52) rfl rfl ?_
  refine go_bipush 55 (v := 8) (D d23_53) rfl rfl ?_
  refine go_ldcJ 58 (v := (100000000 : Int64)) (wk G 219) (D d23_55) rfl ?_
  refine go_stJ 59 (i := 8) (vs' := [(.long (1 : Int64)), (.long (10 : Int64)), (.long (100 : Int64)), (.long (1000 : Int64)), (.long (10000 : Int64)), (.long (100000 : Int64)), (.long (1000000 : Int64)), (.long (10000000 : Int64)), (.long (100000000 : Int64)), (.long (0 : Int64))]) A30 (Nat.le_trans O0.2.1 (Nat.le_of_eq g3)) (by decide) (by decide) rfl (nb rfl) rfl (D d23_58) rfl (fun h31 W32 A33 => ?_)
  refine go_dup 60 (D d23_59) rfl rfl ?_
  refine go_bipush 62 (v := 9) (D d23_60) rfl rfl ?_
  refine go_ldcJ 65 (v := (1000000000 : Int64)) (wk G 220) (D d23_62) rfl ?_
  refine go_stJ 66 (i := 9) (vs' := [(.long (1 : Int64)), (.long (10 : Int64)), (.long (100 : Int64)), (.long (1000 : Int64)), (.long (10000 : Int64)), (.long (100000 : Int64)), (.long (1000000 : Int64)), (.long (10000000 : Int64)), (.long (100000000 : Int64)), (.long (1000000000 : Int64))]) A33 (Nat.le_trans O0.2.1 (Nat.le_of_eq g3)) (by decide) (by decide) rfl (nb rfl) rfl (D d23_65) rfl (fun h34 W35 A36 => ?_)
  refine go_astore_n 67 (ls' := #[vi (Int32.ofNat n), vr a2]) (D d23_66) rfl rfl rfl ?_
  refine go_aload_n 68 (D d23_67) rfl rfl rfl ?_
  refine go_iload_n 69 (D d23_68) rfl rfl ?_
  refine go_laload 70 (i := n) (v := .long (p10 n)) A36 (ofn_nn (by omega)) (show Int32.ofNat n < (10 : Int32) from ofn_lt (k := 10) (by omega) (by decide) (by omega)) (ofn_clamp (by omega)) (getD_long [1, 10, 100, 1000, 10000, 100000, 1000000, 10000000, 100000000, 1000000000] n) (D d23_69) rfl ?_
  have K37 : Keep h0 h1 [] := ((Keep.refl h0 []).ext X4)
  have K38 : Keep h0 h7 [] := (K37.wr W8 (Or.inr (Nat.le_of_eq g3)))
  have K39 : Keep h0 h10 [] := (K38.wr W11 (Or.inr (Nat.le_of_eq g3)))
  have K40 : Keep h0 h13 [] := (K39.wr W14 (Or.inr (Nat.le_of_eq g3)))
  have K41 : Keep h0 h16 [] := (K40.wr W17 (Or.inr (Nat.le_of_eq g3)))
  have K42 : Keep h0 h19 [] := (K41.wr W20 (Or.inr (Nat.le_of_eq g3)))
  have K43 : Keep h0 h22 [] := (K42.wr W23 (Or.inr (Nat.le_of_eq g3)))
  have K44 : Keep h0 h25 [] := (K43.wr W26 (Or.inr (Nat.le_of_eq g3)))
  have K45 : Keep h0 h28 [] := (K44.wr W29 (Or.inr (Nat.le_of_eq g3)))
  have K46 : Keep h0 h31 [] := (K45.wr W32 (Or.inr (Nat.le_of_eq g3)))
  have K47 : Keep h0 h34 [] := (K46.wr W35 (Or.inr (Nat.le_of_eq g3)))
  refine go_lreturn hret hlk (D d23_70) (by decide) (by decide) ⟨_, rfl, rfl⟩ K47
theorem ef15 (m : MethodId) (v0 v1 v2 v3 : Int32) : entryFrame m #[(.int v0), (.int v1), (.int v2), (.int v3)] maxLocals = mkF m 0 #[.val (.int v0), .val (.int v1), .val (.int v2), .val (.int v3), .unset, .unset, .unset, .unset, .unset, .unset, .unset, .unset, .unset, .unset, .unset] [] := by first | (simp [entryFrame, mkF, argsToLocals, Value.category, maxLocals]; done) | rfl
def Q_law (Z : State) (x0 x1 x2 x3 : Int32) (h0 : Heap) (xv : Value) (h : Heap) : Prop := (.int 1) = xv
def Q_hpts0 (Z : State) (a s : Addr) (p : Int32) (h0 : Heap) (xv : Value) (h : Heap) : Prop := ∃ (r : Addr), (.ref r) = xv ∧ Str Z h r ([(58 : Int32)] ++ rep p)
def Q_sbapp0_0 (Z : State) (a b t : Addr) (k : ClassId) (e0 e1 e2 e3 e4 e5 e6 e7 e8 e9 e10 e11 e12 e13 e14 e15 : Int32) (h0 : Heap) (xv : Value) (h : Heap) : Prop := (.ref a) = xv ∧ Fld Z h a "java/lang/AbstractStringBuilder" "value" "[B" (.ref t) ∧ Fld Z h a "java/lang/AbstractStringBuilder" "coder" "B" (.int 0) ∧ Fld Z h a "java/lang/AbstractStringBuilder" "count" "I" (.int 0) ∧ Arv Z h t k (.byte) (16 : Int32) [(.int e0), (.int e1), (.int e2), (.int e3), (.int e4), (.int e5), (.int e6), (.int e7), (.int e8), (.int e9), (.int e10), (.int e11), (.int e12), (.int e13), (.int e14), (.int e15)] (.int 0)
theorem ef16 (m : MethodId) (v0 v1 : Addr) : entryFrame m #[(.ref v0), (.ref v1)] 3 = mkF m 0 #[.val (.ref v0), .val (.ref v1), .unset] [] := by first | (simp [entryFrame, mkF, argsToLocals, Value.category]; done) | rfl
def Q_asbapp0_0 (Z : State) (a b t : Addr) (k : ClassId) (e0 e1 e2 e3 e4 e5 e6 e7 e8 e9 e10 e11 e12 e13 e14 e15 : Int32) (h0 : Heap) (xv : Value) (h : Heap) : Prop := (.ref a) = xv ∧ Fld Z h a "java/lang/AbstractStringBuilder" "value" "[B" (.ref t) ∧ Fld Z h a "java/lang/AbstractStringBuilder" "coder" "B" (.int 0) ∧ Fld Z h a "java/lang/AbstractStringBuilder" "count" "I" (.int 0) ∧ Arv Z h t k (.byte) (16 : Int32) [(.int e0), (.int e1), (.int e2), (.int e3), (.int e4), (.int e5), (.int e6), (.int e7), (.int e8), (.int e9), (.int e10), (.int e11), (.int e12), (.int e13), (.int e14), (.int e15)] (.int 0)
theorem ef17 (m : MethodId) (v0 : Addr) (v1 : Int32) (v2 : Addr) : entryFrame m #[(.ref v0), (.int v1), (.ref v2)] 3 = mkF m 0 #[.val (.ref v0), .val (.int v1), .val (.ref v2)] [] := by first | (simp [entryFrame, mkF, argsToLocals, Value.category]; done) | rfl
def Q_puts0_0 (Z : State) (a b t : Addr) (k : ClassId) (e0 e1 e2 e3 e4 e5 e6 e7 e8 e9 e10 e11 e12 e13 e14 e15 : Int32) (h0 : Heap) (h : Heap) : Prop := Arv Z h t k (.byte) (16 : Int32) [(.int e0), (.int e1), (.int e2), (.int e3), (.int e4), (.int e5), (.int e6), (.int e7), (.int e8), (.int e9), (.int e10), (.int e11), (.int e12), (.int e13), (.int e14), (.int e15)] (.int 0)
theorem ef18 (m : MethodId) (v0 v1 : Addr) (v2 v3 : Int32) : entryFrame m #[(.ref v0), (.ref v1), (.int v2), (.int v3)] 4 = mkF m 0 #[.val (.ref v0), .val (.ref v1), .val (.int v2), .val (.int v3)] [] := by first | (simp [entryFrame, mkF, argsToLocals, Value.category]; done) | rfl
def Q_getb0_0 (Z : State) (a t : Addr) (k : ClassId) (e0 e1 e2 e3 e4 e5 e6 e7 e8 e9 e10 e11 e12 e13 e14 e15 : Int32) (h0 : Heap) (h : Heap) : Prop := Arv Z h t k (.byte) (16 : Int32) [(.int e0), (.int e1), (.int e2), (.int e3), (.int e4), (.int e5), (.int e6), (.int e7), (.int e8), (.int e9), (.int e10), (.int e11), (.int e12), (.int e13), (.int e14), (.int e15)] (.int 0)
theorem c_getb0_0 (G : GH Z a0) (a t : Addr) (k : ClassId) (e0 e1 e2 e3 e4 e5 e6 e7 e8 e9 e10 e11 e12 e13 e14 e15 : Int32) (h0 : Heap) (O0 : Old Z Z.heap.size h0) (p1 : Z.heap.size ≤ t) (p2 : Str Z h0 a []) (p3 : Arv Z h0 t k (.byte) (16 : Int32) [(.int e0), (.int e1), (.int e2), (.int e3), (.int e4), (.int e5), (.int e6), (.int e7), (.int e8), (.int e9), (.int e10), (.int e11), (.int e12), (.int e13), (.int e14), (.int e15)] (.int 0)) : Con false [] l Z (⟨"java/lang/String", "getBytes", "([BIB)V"⟩ : MethodName) jdk_42_method_147_code 4 none [] (rm4 1 0 0 18) #[(.ref a), (.ref t), (.int 0), (.int 0)] h0 [t] (rno (Q_getb0_0 Z a t k e0 e1 e2 e3 e4 e5 e6 e7 e8 e9 e10 e11 e12 e13 e14 e15 h0)) := by
  refine conN G (plainFor_of_name pn4) O0 (fun m => ef18 m a t (0 : Int32) (0 : Int32)) ?_
  intro _ _ _ m_ _ _ _ D hml hret hlk hnm
  refine go_aload_n 1 (D d28_0) rfl rfl rfl ?_
  obtain ⟨t1, k2, E3, F4, F5, A6, B7, L8⟩ := id p2
  have A9 : Arv Z h0 t1 k2 .byte (0 : Int32) [] (.int 0) := A6
  refine callV0 (cells' := 0) (slots' := 0) (Wd := 0) (argsL := []) (rest := []) (pay_of (a0 := a0) (c_coder l G a h0 O0 F5) (wk G 84) (wk G 4)) E3 (wk G 80) (wk G 81) (wk G 83) (wk G 83) (wk G 82) pd2 (sz hml) all0 sf00 (D d28_1) (k_v 4 rfl ?_)
  rintro _ h10 ⟨rfl, rfl⟩ K11
  refine go_iload_n 5 (D d28_4) rfl rfl ?_
  refine go_icF 8 (D d28_5) rfl (by decide) ?_
  refine go_aload_n 9 (D d28_8) rfl rfl rfl ?_
  refine go_getF 12 (wk G 29) Via.refl F4 (D d28_9) rfl ?_
  refine go_iconst 13 (v := 0) (D d28_12) rfl rfl ?_
  refine go_aload_n 14 (D d28_13) rfl rfl rfl ?_
  refine go_iload_n 15 (D d28_14) rfl rfl ?_
  refine go_iload_n 16 (D d28_15) rfl rfl ?_
  refine go_ishl 17 (z := (0 : Int32)) (D d28_16) rfl (by decide) ?_
  refine go_aload_n 18 (D d28_17) rfl rfl rfl ?_
  refine go_getF 21 (wk G 29) Via.refl F4 (D d28_18) rfl ?_
  refine go_arraylength 22 A9 (D d28_21) rfl ?_
  refine go_acopy 25 (Wd := 0) (vd' := [(.int e0), (.int e1), (.int e2), (.int e3), (.int e4), (.int e5), (.int e6), (.int e7), (.int e8), (.int e9), (.int e10), (.int e11), (.int e12), (.int e13), (.int e14), (.int e15)]) (wk G 108) (wk G 111) (wk G 109) (wk G 110) rfl A9 p3 rfl (by decide) (by decide) (by decide) (nb rfl) (nb rfl) (nb rfl) p1 rfl (sz hml) (by decide) (by decide) (by decide) (D d28_22) rfl (fun h12 K13 A14 => ?_)
  refine go_goto 43 (D d28_25) (by decide) rfl ?_
  have K15 : Keep h0 h12 [t] := ((Keep.refl h0 [t]).trans K13 (allS (Or.inl (by simp)) all0))
  refine go_return hret hlk (D d28_43) (by decide) (by decide) ⟨rfl, A14⟩ K15
theorem c_puts0_0 (G : GH Z a0) (a b : Addr) (t : Addr) (k : ClassId) (e0 e1 e2 e3 e4 e5 e6 e7 e8 e9 e10 e11 e12 e13 e14 e15 : Int32) (h0 : Heap) (O0 : Old Z Z.heap.size h0) (p1 : Exa Z h0 a "java/lang/StringBuilder") (p2 : Z.heap.size ≤ a) (p3 : Z.heap.size ≤ t) (p4 : a ≠ t) (p5 : Fld Z h0 a "java/lang/AbstractStringBuilder" "value" "[B" (.ref t)) (p6 : Fld Z h0 a "java/lang/AbstractStringBuilder" "coder" "B" (.int 0)) (p7 : Fld Z h0 a "java/lang/AbstractStringBuilder" "count" "I" (.int 0)) (p8 : Str Z h0 b []) (p9 : Arv Z h0 t k (.byte) (16 : Int32) [(.int e0), (.int e1), (.int e2), (.int e3), (.int e4), (.int e5), (.int e6), (.int e7), (.int e8), (.int e9), (.int e10), (.int e11), (.int e12), (.int e13), (.int e14), (.int e15)] (.int 0)) : Con false [] l Z (⟨"java/lang/AbstractStringBuilder", "putStringAt", "(ILjava/lang/String;)V"⟩ : MethodName) jdk_68_method_73_code 3 none [] (rm4 2 0 0 33) #[(.ref a), (.int 0), (.ref b)] h0 [t] (rno (Q_puts0_0 Z a b t k e0 e1 e2 e3 e4 e5 e6 e7 e8 e9 e10 e11 e12 e13 e14 e15 h0)) := by
  refine conN G (plainFor_of_name pn2) O0 (fun m => ef17 m a (0 : Int32) b) ?_
  intro _ _ _ m_ _ _ _ D hml hret hlk hnm
  refine go_aload_n 1 (D d27_0) rfl rfl rfl ?_
  refine go_aload_n 2 (D d27_1) rfl rfl rfl ?_
  obtain ⟨t1, k2, E3, F4, F5, A6, B7, L8⟩ := id p8
  have A9 : Arv Z h0 t1 k2 .byte (0 : Int32) [] (.int 0) := A6
  refine callP0 (cells' := 0) (slots' := 0) (Wd := 0) (argsL := [(.ref b)]) (rest := []) (pay_of (a0 := a0) (c_inflate l G a b h0 O0 p6 p8.exa F5) (wk G 101) (wk G 57)) p1 (wk G 97) (wk G 98) (sel_priv (wk G 100) (wk G 98) (wk G 99) (by decide)) (wk G 99) (wk G 101) pd15 (sz hml) all0 sf00 (D d27_2) (k_n 5 rfl ?_)
  rintro  h10 rfl K11
  refine go_aload_n 6 (D d27_5) rfl rfl rfl ?_
  refine go_aload_n 7 (D d27_6) rfl rfl rfl ?_
  refine go_getF 10 (wk G 61) Via.refl p5 (D d27_7) rfl ?_
  refine go_iload_n 11 (D d27_10) rfl rfl ?_
  refine go_aload_n 12 (D d27_11) rfl rfl rfl ?_
  refine go_getF 15 (wk G 63) Via.refl p6 (D d27_12) rfl ?_
  refine callV0 (cells' := 0) (slots' := 0) (Wd := 0) (argsL := [(.ref t), (.int 0), (.int 0)]) (rest := []) (pay_of (a0 := a0) (c_getb0_0 l G b t k e0 e1 e2 e3 e4 e5 e6 e7 e8 e9 e10 e11 e12 e13 e14 e15 h0 O0 p3 p8 p9) (wk G 107) (wk G 4)) E3 (wk G 103) (wk G 104) (wk G 106) (wk G 106) (wk G 105) pd16 (sz hml) (allS p3 all0) (fun _ hal => (sfS safe_nil sf0)) (D d27_15) (k_n 18 rfl ?_)
  rintro  h12 f14 K13
  have K15 : Keep h0 h12 [t] := ((Keep.refl h0 [t]).trans K13 (allS (Or.inl (by simp)) all0))
  refine go_return hret hlk (D d27_18) (by decide) (by decide) ⟨rfl, f14⟩ K15
theorem c_asbapp0_0 (G : GH Z a0) (a b : Addr) (t : Addr) (k : ClassId) (e0 e1 e2 e3 e4 e5 e6 e7 e8 e9 e10 e11 e12 e13 e14 e15 : Int32) (h0 : Heap) (O0 : Old Z Z.heap.size h0) (p1 : Exa Z h0 a "java/lang/StringBuilder") (p2 : Z.heap.size ≤ a) (p3 : Z.heap.size ≤ t) (p4 : a ≠ t) (p5 : Fld Z h0 a "java/lang/AbstractStringBuilder" "value" "[B" (.ref t)) (p6 : Fld Z h0 a "java/lang/AbstractStringBuilder" "coder" "B" (.int 0)) (p7 : Fld Z h0 a "java/lang/AbstractStringBuilder" "count" "I" (.int 0)) (p8 : Str Z h0 b []) (p9 : Arv Z h0 t k (.byte) (16 : Int32) [(.int e0), (.int e1), (.int e2), (.int e3), (.int e4), (.int e5), (.int e6), (.int e7), (.int e8), (.int e9), (.int e10), (.int e11), (.int e12), (.int e13), (.int e14), (.int e15)] (.int 0)) : Con false [] l Z (⟨"java/lang/AbstractStringBuilder", "append", "(Ljava/lang/String;)Ljava/lang/AbstractStringBuilder;"⟩ : MethodName) jdk_68_method_22_code 3 (some (.object "java/lang/AbstractStringBuilder")) [] (rm4 3 0 0 47) #[(.ref a), (.ref b)] h0 [a, t] (rvl (Q_asbapp0_0 Z a b t k e0 e1 e2 e3 e4 e5 e6 e7 e8 e9 e10 e11 e12 e13 e14 e15 h0)) := by
  refine conN G (plainFor_of_name pn2) O0 (fun m => ef16 m a b) ?_
  intro _ _ _ m_ _ _ _ D hml hret hlk hnm
  refine go_aload_n 1 (D d26_0) rfl rfl rfl ?_
  refine go_nnT 9 (D d26_1) (by decide) rfl ?_
  refine go_aload_n 10 (D d26_9) rfl rfl rfl ?_
  refine callV0 (cells' := 0) (slots' := 0) (Wd := 0) (argsL := []) (rest := []) (pay_len G O0 (n := (0 : Int32)) p8 rfl (by decide) (by decide)) p8.exa (wk G 75) (wk G 76) (wk G 78) (wk G 78) (wk G 77) pd3 (sz hml) all0 sf00 (D d26_10) (k_v 13 rfl ?_)
  rintro _ _ ⟨rfl, rfl⟩ -
  refine go_istore_n 14 (ls' := #[vr a, vr b, vi 0]) (D d26_13) rfl rfl ?_
  refine go_aload_n 15 (D d26_14) rfl rfl rfl ?_
  refine go_aload_n 16 (D d26_15) rfl rfl rfl ?_
  refine go_getF 19 (wk G 85) Via.refl p7 (D d26_16) rfl ?_
  refine go_iload_n 20 (D d26_19) rfl rfl ?_
  refine go_iadd 21 (z := (0 : Int32)) (D d26_20) rfl (by decide) ?_
  refine callP0 (cells' := 0) (slots' := 0) (Wd := 0) (argsL := [(.int 0)]) (rest := []) (pay_of (a0 := a0) (c_ensure l G a (0 : Int32) t k [(.int e0), (.int e1), (.int e2), (.int e3), (.int e4), (.int e5), (.int e6), (.int e7), (.int e8), (.int e9), (.int e10), (.int e11), (.int e12), (.int e13), (.int e14), (.int e15)] h0 O0 p5 p6 p9 (by decide)) (wk G 91) (wk G 57)) p1 (wk G 87) (wk G 88) (sel_priv (wk G 90) (wk G 88) (wk G 89) (by decide)) (wk G 89) (wk G 91) pd1 (sz hml) all0 sf00 (D d26_21) (k_n 24 rfl ?_)
  rintro  h1 rfl K2
  refine go_aload_n 25 (D d26_24) rfl rfl rfl ?_
  refine go_aload_n 26 (D d26_25) rfl rfl rfl ?_
  refine go_getF 29 (wk G 85) Via.refl p7 (D d26_26) rfl ?_
  refine go_aload_n 30 (D d26_29) rfl rfl rfl ?_
  refine callP0 (cells' := 0) (slots' := 0) (Wd := 0) (argsL := [(.int 0), (.ref b)]) (rest := []) (pay_of (a0 := a0) (c_puts0_0 l G a b t k e0 e1 e2 e3 e4 e5 e6 e7 e8 e9 e10 e11 e12 e13 e14 e15 h0 O0 p1 p2 p3 p4 p5 p6 p7 p8 p9) (wk G 96) (wk G 57)) p1 (wk G 92) (wk G 93) (sel_priv (wk G 95) (wk G 93) (wk G 94) (by decide)) (wk G 94) (wk G 96) pd17 (sz hml) (allS p3 all0) (fun _ hal => (sfS safe_nil sf0)) (D d26_30) (k_n 33 rfl ?_)
  rintro  h3 f5 K4
  refine go_aload_n 34 (D d26_33) rfl rfl rfl ?_
  refine go_dup 35 (D d26_34) rfl rfl ?_
  have F6 := (p7.keep K4 (ninS p4 nin0))
  refine go_getF 38 (wk G 85) Via.refl F6 (D d26_35) rfl ?_
  refine go_iload_n 39 (D d26_38) rfl rfl ?_
  refine go_iadd 40 (z := (0 : Int32)) (D d26_39) rfl (by decide) ?_
  have E7 := (p1.keep K4)
  refine go_putF 43 (wk G 85) Via.refl F6 E7 (Or.inl (wk G 86)) (wk G 48) (ty := .int) (v' := (.int 0)) (by decide) rfl rfl p2 (Or.inr rfl) (D d26_40) rfl (fun h8 W9 => ?_)
  have F10 := Fld.same W9 F6
  refine go_aload_n 44 (D d26_43) rfl rfl rfl ?_
  have K11 : Keep h0 h3 [a, t] := ((Keep.refl h0 [a, t]).trans K4 (allS (Or.inl (by simp)) all0))
  have K12 : Keep h0 h8 [a, t] := (K11.wr W9 (Or.inl (by simp)))
  have F13 := ((p5.keep K4 (ninS p4 nin0)).other W9 (Or.inr (slot_ne (t := (.array .byte)) (t' := .int) (Or.inl (wk G 62)) (Or.inl (wk G 86)) (by decide) (by decide) (by decide))))
  have F14 := ((p6.keep K4 (ninS p4 nin0)).other W9 (Or.inr (slot_ne (t := .byte) (t' := .int) (Or.inl (wk G 64)) (Or.inl (wk G 86)) (by decide) (by decide) (by decide))))
  have A15 := (f5.other W9 (Ne.symm p4))
  refine go_areturn hret hlk rfl rfl (D d26_44) (by decide) (by decide) ⟨_, rfl, ⟨rfl, F13, F14, F10, A15⟩⟩ K12
theorem c_sbapp0_0 (G : GH Z a0) (a b : Addr) (t : Addr) (k : ClassId) (e0 e1 e2 e3 e4 e5 e6 e7 e8 e9 e10 e11 e12 e13 e14 e15 : Int32) (h0 : Heap) (O0 : Old Z Z.heap.size h0) (p1 : Exa Z h0 a "java/lang/StringBuilder") (p2 : Z.heap.size ≤ a) (p3 : Z.heap.size ≤ t) (p4 : a ≠ t) (p5 : Fld Z h0 a "java/lang/AbstractStringBuilder" "value" "[B" (.ref t)) (p6 : Fld Z h0 a "java/lang/AbstractStringBuilder" "coder" "B" (.int 0)) (p7 : Fld Z h0 a "java/lang/AbstractStringBuilder" "count" "I" (.int 0)) (p8 : Str Z h0 b []) (p9 : Arv Z h0 t k (.byte) (16 : Int32) [(.int e0), (.int e1), (.int e2), (.int e3), (.int e4), (.int e5), (.int e6), (.int e7), (.int e8), (.int e9), (.int e10), (.int e11), (.int e12), (.int e13), (.int e14), (.int e15)] (.int 0)) : Con false [] l Z (⟨"java/lang/StringBuilder", "append", "(Ljava/lang/String;)Ljava/lang/StringBuilder;"⟩ : MethodName) jdk_67_method_7_code 2 (some (.object "java/lang/StringBuilder")) [] (rm4 4 0 0 61) #[(.ref a), (.ref b)] h0 [a, t] (rvl (Q_sbapp0_0 Z a b t k e0 e1 e2 e3 e4 e5 e6 e7 e8 e9 e10 e11 e12 e13 e14 e15 h0)) := by
  refine conN G (plainFor_of_name pn3) O0 (fun m => ef6 m a b) ?_
  intro _ _ _ m_ _ _ _ D hml hret hlk hnm
  refine go_aload_n 1 (D d25_0) rfl rfl rfl ?_
  refine go_aload_n 2 (D d25_1) rfl rfl rfl ?_
  refine callU0 (cells' := 0) (slots' := 0) (Wd := 0) (argsL := [(.ref b)]) (rest := []) (pay_of (a0 := a0) (c_asbapp0_0 l G a b t k e0 e1 e2 e3 e4 e5 e6 e7 e8 e9 e10 e11 e12 e13 e14 e15 h0 O0 p1 p2 p3 p4 p5 p6 p7 p8 p9) (wk G 74) (wk G 57)) (Ins.self p1) (wk G 70) (same_self (z := (⟨"java/lang/AbstractStringBuilder", "ensureCapacityInternal", "(I)V"⟩ : MethodName)) rfl (wk G 90) (wk G 71) (by decide)) (wk G 71) (wk G 72) (wk G 74) pd18 (sz hml) (allS p2 (allS p3 all0)) (fun _ hal => (sfS safe_nil (sfS safe_nil sf0))) (D d25_2) (k_v 5 rfl ?_)
  rintro _ h1 ⟨rfl, f3, f4, f5, f6⟩ K2
  refine go_pop 6 (D d25_5) rfl rfl ?_
  refine go_aload_n 7 (D d25_6) rfl rfl rfl ?_
  have K7 : Keep h0 h1 [a, t] := ((Keep.refl h0 [a, t]).trans K2 (allS (Or.inl (by simp)) (allS (Or.inl (by simp)) all0)))
  refine go_areturn hret hlk rfl rfl (D d25_7) (by decide) (by decide) ⟨_, rfl, ⟨rfl, f3, f4, f5, f6⟩⟩ K7
def Q_sbapp0_1 (Z : State) (a b t : Addr) (k : ClassId) (c0 e0 e1 e2 e3 e4 e5 e6 e7 e8 e9 e10 e11 e12 e13 e14 e15 : Int32) (h0 : Heap) (xv : Value) (h : Heap) : Prop := (.ref a) = xv ∧ Fld Z h a "java/lang/AbstractStringBuilder" "value" "[B" (.ref t) ∧ Fld Z h a "java/lang/AbstractStringBuilder" "coder" "B" (.int 0) ∧ Fld Z h a "java/lang/AbstractStringBuilder" "count" "I" (.int 1) ∧ Arv Z h t k (.byte) (16 : Int32) [(.int (c0).toInt8.toInt32), (.int e1), (.int e2), (.int e3), (.int e4), (.int e5), (.int e6), (.int e7), (.int e8), (.int e9), (.int e10), (.int e11), (.int e12), (.int e13), (.int e14), (.int e15)] (.int 0)
def Q_asbapp0_1 (Z : State) (a b t : Addr) (k : ClassId) (c0 e0 e1 e2 e3 e4 e5 e6 e7 e8 e9 e10 e11 e12 e13 e14 e15 : Int32) (h0 : Heap) (xv : Value) (h : Heap) : Prop := (.ref a) = xv ∧ Fld Z h a "java/lang/AbstractStringBuilder" "value" "[B" (.ref t) ∧ Fld Z h a "java/lang/AbstractStringBuilder" "coder" "B" (.int 0) ∧ Fld Z h a "java/lang/AbstractStringBuilder" "count" "I" (.int 1) ∧ Arv Z h t k (.byte) (16 : Int32) [(.int (c0).toInt8.toInt32), (.int e1), (.int e2), (.int e3), (.int e4), (.int e5), (.int e6), (.int e7), (.int e8), (.int e9), (.int e10), (.int e11), (.int e12), (.int e13), (.int e14), (.int e15)] (.int 0)
def Q_puts0_1 (Z : State) (a b t : Addr) (k : ClassId) (c0 e0 e1 e2 e3 e4 e5 e6 e7 e8 e9 e10 e11 e12 e13 e14 e15 : Int32) (h0 : Heap) (h : Heap) : Prop := Arv Z h t k (.byte) (16 : Int32) [(.int (c0).toInt8.toInt32), (.int e1), (.int e2), (.int e3), (.int e4), (.int e5), (.int e6), (.int e7), (.int e8), (.int e9), (.int e10), (.int e11), (.int e12), (.int e13), (.int e14), (.int e15)] (.int 0)
def Q_getb0_1 (Z : State) (a t : Addr) (k : ClassId) (c0 e0 e1 e2 e3 e4 e5 e6 e7 e8 e9 e10 e11 e12 e13 e14 e15 : Int32) (h0 : Heap) (h : Heap) : Prop := Arv Z h t k (.byte) (16 : Int32) [(.int (c0).toInt8.toInt32), (.int e1), (.int e2), (.int e3), (.int e4), (.int e5), (.int e6), (.int e7), (.int e8), (.int e9), (.int e10), (.int e11), (.int e12), (.int e13), (.int e14), (.int e15)] (.int 0)
theorem c_getb0_1 (G : GH Z a0) (a t : Addr) (k : ClassId) (c0 e0 e1 e2 e3 e4 e5 e6 e7 e8 e9 e10 e11 e12 e13 e14 e15 : Int32) (h0 : Heap) (O0 : Old Z Z.heap.size h0) (p1 : Z.heap.size ≤ t) (p2 : Str Z h0 a [c0]) (p3 : Arv Z h0 t k (.byte) (16 : Int32) [(.int e0), (.int e1), (.int e2), (.int e3), (.int e4), (.int e5), (.int e6), (.int e7), (.int e8), (.int e9), (.int e10), (.int e11), (.int e12), (.int e13), (.int e14), (.int e15)] (.int 0)) : Con false [] l Z (⟨"java/lang/String", "getBytes", "([BIB)V"⟩ : MethodName) jdk_42_method_147_code 4 none [] (rm4 1 0 0 18) #[(.ref a), (.ref t), (.int 0), (.int 0)] h0 [t] (rno (Q_getb0_1 Z a t k c0 e0 e1 e2 e3 e4 e5 e6 e7 e8 e9 e10 e11 e12 e13 e14 e15 h0)) := by
  refine conN G (plainFor_of_name pn4) O0 (fun m => ef18 m a t (0 : Int32) (0 : Int32)) ?_
  intro _ _ _ m_ _ _ _ D hml hret hlk hnm
  refine go_aload_n 1 (D d28_0) rfl rfl rfl ?_
  obtain ⟨t1, k2, E3, F4, F5, A6, B7, L8⟩ := id p2
  have A9 : Arv Z h0 t1 k2 .byte (1 : Int32) [(.int (c0).toInt8.toInt32)] (.int 0) := A6
  refine callV0 (cells' := 0) (slots' := 0) (Wd := 0) (argsL := []) (rest := []) (pay_of (a0 := a0) (c_coder l G a h0 O0 F5) (wk G 84) (wk G 4)) E3 (wk G 80) (wk G 81) (wk G 83) (wk G 83) (wk G 82) pd2 (sz hml) all0 sf00 (D d28_1) (k_v 4 rfl ?_)
  rintro _ h10 ⟨rfl, rfl⟩ K11
  refine go_iload_n 5 (D d28_4) rfl rfl ?_
  refine go_icF 8 (D d28_5) rfl (by decide) ?_
  refine go_aload_n 9 (D d28_8) rfl rfl rfl ?_
  refine go_getF 12 (wk G 29) Via.refl F4 (D d28_9) rfl ?_
  refine go_iconst 13 (v := 0) (D d28_12) rfl rfl ?_
  refine go_aload_n 14 (D d28_13) rfl rfl rfl ?_
  refine go_iload_n 15 (D d28_14) rfl rfl ?_
  refine go_iload_n 16 (D d28_15) rfl rfl ?_
  refine go_ishl 17 (z := (0 : Int32)) (D d28_16) rfl (by decide) ?_
  refine go_aload_n 18 (D d28_17) rfl rfl rfl ?_
  refine go_getF 21 (wk G 29) Via.refl F4 (D d28_18) rfl ?_
  refine go_arraylength 22 A9 (D d28_21) rfl ?_
  refine go_acopy 25 (Wd := 0) (vd' := [(.int (c0).toInt8.toInt32), (.int e1), (.int e2), (.int e3), (.int e4), (.int e5), (.int e6), (.int e7), (.int e8), (.int e9), (.int e10), (.int e11), (.int e12), (.int e13), (.int e14), (.int e15)]) (wk G 108) (wk G 111) (wk G 109) (wk G 110) rfl A9 p3 rfl (by decide) (by decide) (by decide) (nb rfl) (nb rfl) (nb rfl) p1 rfl (sz hml) (by decide) (by decide) (by decide) (D d28_22) rfl (fun h12 K13 A14 => ?_)
  refine go_goto 43 (D d28_25) (by decide) rfl ?_
  have K15 : Keep h0 h12 [t] := ((Keep.refl h0 [t]).trans K13 (allS (Or.inl (by simp)) all0))
  refine go_return hret hlk (D d28_43) (by decide) (by decide) ⟨rfl, A14⟩ K15
theorem c_puts0_1 (G : GH Z a0) (a b : Addr) (t : Addr) (k : ClassId) (c0 e0 e1 e2 e3 e4 e5 e6 e7 e8 e9 e10 e11 e12 e13 e14 e15 : Int32) (h0 : Heap) (O0 : Old Z Z.heap.size h0) (p1 : Exa Z h0 a "java/lang/StringBuilder") (p2 : Z.heap.size ≤ a) (p3 : Z.heap.size ≤ t) (p4 : a ≠ t) (p5 : Fld Z h0 a "java/lang/AbstractStringBuilder" "value" "[B" (.ref t)) (p6 : Fld Z h0 a "java/lang/AbstractStringBuilder" "coder" "B" (.int 0)) (p7 : Fld Z h0 a "java/lang/AbstractStringBuilder" "count" "I" (.int 0)) (p8 : Str Z h0 b [c0]) (p9 : Arv Z h0 t k (.byte) (16 : Int32) [(.int e0), (.int e1), (.int e2), (.int e3), (.int e4), (.int e5), (.int e6), (.int e7), (.int e8), (.int e9), (.int e10), (.int e11), (.int e12), (.int e13), (.int e14), (.int e15)] (.int 0)) : Con false [] l Z (⟨"java/lang/AbstractStringBuilder", "putStringAt", "(ILjava/lang/String;)V"⟩ : MethodName) jdk_68_method_73_code 3 none [] (rm4 2 0 0 33) #[(.ref a), (.int 0), (.ref b)] h0 [t] (rno (Q_puts0_1 Z a b t k c0 e0 e1 e2 e3 e4 e5 e6 e7 e8 e9 e10 e11 e12 e13 e14 e15 h0)) := by
  refine conN G (plainFor_of_name pn2) O0 (fun m => ef17 m a (0 : Int32) b) ?_
  intro _ _ _ m_ _ _ _ D hml hret hlk hnm
  refine go_aload_n 1 (D d27_0) rfl rfl rfl ?_
  refine go_aload_n 2 (D d27_1) rfl rfl rfl ?_
  obtain ⟨t1, k2, E3, F4, F5, A6, B7, L8⟩ := id p8
  have A9 : Arv Z h0 t1 k2 .byte (1 : Int32) [(.int (c0).toInt8.toInt32)] (.int 0) := A6
  refine callP0 (cells' := 0) (slots' := 0) (Wd := 0) (argsL := [(.ref b)]) (rest := []) (pay_of (a0 := a0) (c_inflate l G a b h0 O0 p6 p8.exa F5) (wk G 101) (wk G 57)) p1 (wk G 97) (wk G 98) (sel_priv (wk G 100) (wk G 98) (wk G 99) (by decide)) (wk G 99) (wk G 101) pd15 (sz hml) all0 sf00 (D d27_2) (k_n 5 rfl ?_)
  rintro  h10 rfl K11
  refine go_aload_n 6 (D d27_5) rfl rfl rfl ?_
  refine go_aload_n 7 (D d27_6) rfl rfl rfl ?_
  refine go_getF 10 (wk G 61) Via.refl p5 (D d27_7) rfl ?_
  refine go_iload_n 11 (D d27_10) rfl rfl ?_
  refine go_aload_n 12 (D d27_11) rfl rfl rfl ?_
  refine go_getF 15 (wk G 63) Via.refl p6 (D d27_12) rfl ?_
  refine callV0 (cells' := 0) (slots' := 0) (Wd := 0) (argsL := [(.ref t), (.int 0), (.int 0)]) (rest := []) (pay_of (a0 := a0) (c_getb0_1 l G b t k c0 e0 e1 e2 e3 e4 e5 e6 e7 e8 e9 e10 e11 e12 e13 e14 e15 h0 O0 p3 p8 p9) (wk G 107) (wk G 4)) E3 (wk G 103) (wk G 104) (wk G 106) (wk G 106) (wk G 105) pd16 (sz hml) (allS p3 all0) (fun _ hal => (sfS safe_nil sf0)) (D d27_15) (k_n 18 rfl ?_)
  rintro  h12 f14 K13
  have K15 : Keep h0 h12 [t] := ((Keep.refl h0 [t]).trans K13 (allS (Or.inl (by simp)) all0))
  refine go_return hret hlk (D d27_18) (by decide) (by decide) ⟨rfl, f14⟩ K15
theorem c_asbapp0_1 (G : GH Z a0) (a b : Addr) (t : Addr) (k : ClassId) (c0 e0 e1 e2 e3 e4 e5 e6 e7 e8 e9 e10 e11 e12 e13 e14 e15 : Int32) (h0 : Heap) (O0 : Old Z Z.heap.size h0) (p1 : Exa Z h0 a "java/lang/StringBuilder") (p2 : Z.heap.size ≤ a) (p3 : Z.heap.size ≤ t) (p4 : a ≠ t) (p5 : Fld Z h0 a "java/lang/AbstractStringBuilder" "value" "[B" (.ref t)) (p6 : Fld Z h0 a "java/lang/AbstractStringBuilder" "coder" "B" (.int 0)) (p7 : Fld Z h0 a "java/lang/AbstractStringBuilder" "count" "I" (.int 0)) (p8 : Str Z h0 b [c0]) (p9 : Arv Z h0 t k (.byte) (16 : Int32) [(.int e0), (.int e1), (.int e2), (.int e3), (.int e4), (.int e5), (.int e6), (.int e7), (.int e8), (.int e9), (.int e10), (.int e11), (.int e12), (.int e13), (.int e14), (.int e15)] (.int 0)) : Con false [] l Z (⟨"java/lang/AbstractStringBuilder", "append", "(Ljava/lang/String;)Ljava/lang/AbstractStringBuilder;"⟩ : MethodName) jdk_68_method_22_code 3 (some (.object "java/lang/AbstractStringBuilder")) [] (rm4 3 0 0 47) #[(.ref a), (.ref b)] h0 [a, t] (rvl (Q_asbapp0_1 Z a b t k c0 e0 e1 e2 e3 e4 e5 e6 e7 e8 e9 e10 e11 e12 e13 e14 e15 h0)) := by
  refine conN G (plainFor_of_name pn2) O0 (fun m => ef16 m a b) ?_
  intro _ _ _ m_ _ _ _ D hml hret hlk hnm
  refine go_aload_n 1 (D d26_0) rfl rfl rfl ?_
  refine go_nnT 9 (D d26_1) (by decide) rfl ?_
  refine go_aload_n 10 (D d26_9) rfl rfl rfl ?_
  refine callV0 (cells' := 0) (slots' := 0) (Wd := 0) (argsL := []) (rest := []) (pay_len G O0 (n := (1 : Int32)) p8 rfl (by decide) (by decide)) p8.exa (wk G 75) (wk G 76) (wk G 78) (wk G 78) (wk G 77) pd3 (sz hml) all0 sf00 (D d26_10) (k_v 13 rfl ?_)
  rintro _ _ ⟨rfl, rfl⟩ -
  refine go_istore_n 14 (ls' := #[vr a, vr b, vi 1]) (D d26_13) rfl rfl ?_
  refine go_aload_n 15 (D d26_14) rfl rfl rfl ?_
  refine go_aload_n 16 (D d26_15) rfl rfl rfl ?_
  refine go_getF 19 (wk G 85) Via.refl p7 (D d26_16) rfl ?_
  refine go_iload_n 20 (D d26_19) rfl rfl ?_
  refine go_iadd 21 (z := (1 : Int32)) (D d26_20) rfl (by decide) ?_
  refine callP0 (cells' := 0) (slots' := 0) (Wd := 0) (argsL := [(.int 1)]) (rest := []) (pay_of (a0 := a0) (c_ensure l G a (1 : Int32) t k [(.int e0), (.int e1), (.int e2), (.int e3), (.int e4), (.int e5), (.int e6), (.int e7), (.int e8), (.int e9), (.int e10), (.int e11), (.int e12), (.int e13), (.int e14), (.int e15)] h0 O0 p5 p6 p9 (by decide)) (wk G 91) (wk G 57)) p1 (wk G 87) (wk G 88) (sel_priv (wk G 90) (wk G 88) (wk G 89) (by decide)) (wk G 89) (wk G 91) pd1 (sz hml) all0 sf00 (D d26_21) (k_n 24 rfl ?_)
  rintro  h1 rfl K2
  refine go_aload_n 25 (D d26_24) rfl rfl rfl ?_
  refine go_aload_n 26 (D d26_25) rfl rfl rfl ?_
  refine go_getF 29 (wk G 85) Via.refl p7 (D d26_26) rfl ?_
  refine go_aload_n 30 (D d26_29) rfl rfl rfl ?_
  refine callP0 (cells' := 0) (slots' := 0) (Wd := 0) (argsL := [(.int 0), (.ref b)]) (rest := []) (pay_of (a0 := a0) (c_puts0_1 l G a b t k c0 e0 e1 e2 e3 e4 e5 e6 e7 e8 e9 e10 e11 e12 e13 e14 e15 h0 O0 p1 p2 p3 p4 p5 p6 p7 p8 p9) (wk G 96) (wk G 57)) p1 (wk G 92) (wk G 93) (sel_priv (wk G 95) (wk G 93) (wk G 94) (by decide)) (wk G 94) (wk G 96) pd17 (sz hml) (allS p3 all0) (fun _ hal => (sfS safe_nil sf0)) (D d26_30) (k_n 33 rfl ?_)
  rintro  h3 f5 K4
  refine go_aload_n 34 (D d26_33) rfl rfl rfl ?_
  refine go_dup 35 (D d26_34) rfl rfl ?_
  have F6 := (p7.keep K4 (ninS p4 nin0))
  refine go_getF 38 (wk G 85) Via.refl F6 (D d26_35) rfl ?_
  refine go_iload_n 39 (D d26_38) rfl rfl ?_
  refine go_iadd 40 (z := (1 : Int32)) (D d26_39) rfl (by decide) ?_
  have E7 := (p1.keep K4)
  refine go_putF 43 (wk G 85) Via.refl F6 E7 (Or.inl (wk G 86)) (wk G 48) (ty := .int) (v' := (.int 1)) (by decide) rfl rfl p2 (Or.inr rfl) (D d26_40) rfl (fun h8 W9 => ?_)
  have F10 := Fld.same W9 F6
  refine go_aload_n 44 (D d26_43) rfl rfl rfl ?_
  have K11 : Keep h0 h3 [a, t] := ((Keep.refl h0 [a, t]).trans K4 (allS (Or.inl (by simp)) all0))
  have K12 : Keep h0 h8 [a, t] := (K11.wr W9 (Or.inl (by simp)))
  have F13 := ((p5.keep K4 (ninS p4 nin0)).other W9 (Or.inr (slot_ne (t := (.array .byte)) (t' := .int) (Or.inl (wk G 62)) (Or.inl (wk G 86)) (by decide) (by decide) (by decide))))
  have F14 := ((p6.keep K4 (ninS p4 nin0)).other W9 (Or.inr (slot_ne (t := .byte) (t' := .int) (Or.inl (wk G 64)) (Or.inl (wk G 86)) (by decide) (by decide) (by decide))))
  have A15 := (f5.other W9 (Ne.symm p4))
  refine go_areturn hret hlk rfl rfl (D d26_44) (by decide) (by decide) ⟨_, rfl, ⟨rfl, F13, F14, F10, A15⟩⟩ K12
theorem c_sbapp0_1 (G : GH Z a0) (a b : Addr) (t : Addr) (k : ClassId) (c0 e0 e1 e2 e3 e4 e5 e6 e7 e8 e9 e10 e11 e12 e13 e14 e15 : Int32) (h0 : Heap) (O0 : Old Z Z.heap.size h0) (p1 : Exa Z h0 a "java/lang/StringBuilder") (p2 : Z.heap.size ≤ a) (p3 : Z.heap.size ≤ t) (p4 : a ≠ t) (p5 : Fld Z h0 a "java/lang/AbstractStringBuilder" "value" "[B" (.ref t)) (p6 : Fld Z h0 a "java/lang/AbstractStringBuilder" "coder" "B" (.int 0)) (p7 : Fld Z h0 a "java/lang/AbstractStringBuilder" "count" "I" (.int 0)) (p8 : Str Z h0 b [c0]) (p9 : Arv Z h0 t k (.byte) (16 : Int32) [(.int e0), (.int e1), (.int e2), (.int e3), (.int e4), (.int e5), (.int e6), (.int e7), (.int e8), (.int e9), (.int e10), (.int e11), (.int e12), (.int e13), (.int e14), (.int e15)] (.int 0)) : Con false [] l Z (⟨"java/lang/StringBuilder", "append", "(Ljava/lang/String;)Ljava/lang/StringBuilder;"⟩ : MethodName) jdk_67_method_7_code 2 (some (.object "java/lang/StringBuilder")) [] (rm4 4 0 0 61) #[(.ref a), (.ref b)] h0 [a, t] (rvl (Q_sbapp0_1 Z a b t k c0 e0 e1 e2 e3 e4 e5 e6 e7 e8 e9 e10 e11 e12 e13 e14 e15 h0)) := by
  refine conN G (plainFor_of_name pn3) O0 (fun m => ef6 m a b) ?_
  intro _ _ _ m_ _ _ _ D hml hret hlk hnm
  refine go_aload_n 1 (D d25_0) rfl rfl rfl ?_
  refine go_aload_n 2 (D d25_1) rfl rfl rfl ?_
  refine callU0 (cells' := 0) (slots' := 0) (Wd := 0) (argsL := [(.ref b)]) (rest := []) (pay_of (a0 := a0) (c_asbapp0_1 l G a b t k c0 e0 e1 e2 e3 e4 e5 e6 e7 e8 e9 e10 e11 e12 e13 e14 e15 h0 O0 p1 p2 p3 p4 p5 p6 p7 p8 p9) (wk G 74) (wk G 57)) (Ins.self p1) (wk G 70) (same_self (z := (⟨"java/lang/AbstractStringBuilder", "ensureCapacityInternal", "(I)V"⟩ : MethodName)) rfl (wk G 90) (wk G 71) (by decide)) (wk G 71) (wk G 72) (wk G 74) pd18 (sz hml) (allS p2 (allS p3 all0)) (fun _ hal => (sfS safe_nil (sfS safe_nil sf0))) (D d25_2) (k_v 5 rfl ?_)
  rintro _ h1 ⟨rfl, f3, f4, f5, f6⟩ K2
  refine go_pop 6 (D d25_5) rfl rfl ?_
  refine go_aload_n 7 (D d25_6) rfl rfl rfl ?_
  have K7 : Keep h0 h1 [a, t] := ((Keep.refl h0 [a, t]).trans K2 (allS (Or.inl (by simp)) (allS (Or.inl (by simp)) all0)))
  refine go_areturn hret hlk rfl rfl (D d25_7) (by decide) (by decide) ⟨_, rfl, ⟨rfl, f3, f4, f5, f6⟩⟩ K7
def Q_sbappi1 (Z : State) (a : Addr) (p : Int32) (t : Addr) (k : ClassId) (L : List Value) (h0 : Heap) (xv : Value) (h : Heap) : Prop := (.ref a) = xv ∧ Fld Z h a "java/lang/AbstractStringBuilder" "value" "[B" (.ref t) ∧ Fld Z h a "java/lang/AbstractStringBuilder" "coder" "B" (.int 0) ∧ Fld Z h a "java/lang/AbstractStringBuilder" "count" "I" (.int (Int32.ofNat (1 + (rep p).length))) ∧ Arv Z h t k (.byte) (16 : Int32) (tk L 1 ((rep p).map Value.int) (1 + (rep p).length)) (.int 0)
theorem ef19 (m : MethodId) (v0 : Addr) (v1 : Int32) : entryFrame m #[(.ref v0), (.int v1)] 4 = mkF m 0 #[.val (.ref v0), .val (.int v1), .unset, .unset] [] := by first | (simp [entryFrame, mkF, argsToLocals, Value.category]; done) | rfl
def Q_asbappi1 (Z : State) (a : Addr) (p : Int32) (t : Addr) (k : ClassId) (L : List Value) (h0 : Heap) (xv : Value) (h : Heap) : Prop := (.ref a) = xv ∧ Fld Z h a "java/lang/AbstractStringBuilder" "value" "[B" (.ref t) ∧ Fld Z h a "java/lang/AbstractStringBuilder" "coder" "B" (.int 0) ∧ Fld Z h a "java/lang/AbstractStringBuilder" "count" "I" (.int (Int32.ofNat (1 + (rep p).length))) ∧ Arv Z h t k (.byte) (16 : Int32) (tk L 1 ((rep p).map Value.int) (1 + (rep p).length)) (.int 0)
theorem c_asbappi1 (G : GH Z a0) (a : Addr) (p : Int32) (t : Addr) (k : ClassId) (L : List Value) (h0 : Heap) (O0 : Old Z Z.heap.size h0) (p1 : Exa Z h0 a "java/lang/StringBuilder") (p2 : Z.heap.size ≤ a) (p3 : Z.heap.size ≤ t) (p4 : a ≠ t) (p5 : Fld Z h0 a "java/lang/AbstractStringBuilder" "value" "[B" (.ref t)) (p6 : Fld Z h0 a "java/lang/AbstractStringBuilder" "coder" "B" (.int 0)) (p7 : Fld Z h0 a "java/lang/AbstractStringBuilder" "count" "I" (.int 1)) (p8 : Arv Z h0 t k (.byte) (16 : Int32) L (.int 0)) (p9 : L.length = 16) : Con false [] l Z (⟨"java/lang/AbstractStringBuilder", "append", "(I)Ljava/lang/AbstractStringBuilder;"⟩ : MethodName) jdk_68_method_32_code 4 (some (.object "java/lang/AbstractStringBuilder")) [] (rm4 1 0 0 18) #[(.ref a), (.int p)] h0 [a, t] (rvl (Q_asbappi1 Z a p t k L h0)) := by
  refine conN G (plainFor_of_name pn2) O0 (fun m => ef19 m a p) ?_
  intro _ _ _ m_ _ _ _ D hml hret hlk hnm
  refine go_aload_n 1 (D d30_0) rfl rfl rfl ?_
  refine go_getF 4 (wk G 85) Via.refl p7 (D d30_1) rfl ?_
  refine go_istore_n 5 (ls' := #[vr a, vi p, vi 1, un]) (D d30_4) rfl rfl ?_
  refine go_iload_n 6 (D d30_5) rfl rfl ?_
  refine go_iload_n 7 (D d30_6) rfl rfl ?_
  refine callS0 (cells' := 0) (slots' := 0) (Wd := 1) (argsL := [(.int p)]) (rest := [(.int 1)]) (pay_of (a0 := a0) (c_strsz l G p h0 O0 ) (wk G 127) (wk G 126)) (wk G 124) (wk G 125) (wk G 126) (wk G 127) pd20 (sz hml) all0 sf00 (D d30_7) (k_v 10 rfl ?_)
  rintro _ h1 ⟨r3, rfl, rfl, f4⟩ K2
  subst f4
  refine go_iadd 11 (z := (Int32.ofNat (1 + (rep p).length))) (D d30_10) rfl (ofn_add (n := 1) (k := (rep p).length) (by have := rep_b p; omega)) ?_
  refine go_istore_n 12 (ls' := #[vr a, vi p, vi 1, vi (Int32.ofNat (1 + (rep p).length))]) (D d30_11) rfl rfl ?_
  refine go_aload_n 13 (D d30_12) rfl rfl rfl ?_
  refine go_iload_n 14 (D d30_13) rfl rfl ?_
  refine callP0 (cells' := 0) (slots' := 0) (Wd := 0) (argsL := [(.int (Int32.ofNat (1 + (rep p).length)))]) (rest := []) (pay_of (a0 := a0) (c_ensure l G a (Int32.ofNat (1 + (rep p).length)) t k L h0 O0 p5 p6 p8 (ens_ok (by have := rep_b p; omega))) (wk G 91) (wk G 57)) p1 (wk G 87) (wk G 88) (sel_priv (wk G 90) (wk G 88) (wk G 89) (by decide)) (wk G 89) (wk G 91) pd1 (sz hml) all0 sf00 (D d30_14) (k_n 17 rfl ?_)
  rintro  h5 rfl K6
  refine go_aload_n 18 (D d30_17) rfl rfl rfl ?_
  refine callV0 (cells' := 0) (slots' := 0) (Wd := 0) (argsL := []) (rest := []) (pay_of (a0 := a0) (c_asblatin l G a h0 O0 p6) (wk G 132) (wk G 57)) p1 (wk G 128) (wk G 129) (wk G 131) (wk G 131) (wk G 130) pd8 (sz hml) all0 sf00 (D d30_18) (k_v 21 rfl ?_)
  rintro _ h7 ⟨rfl, rfl⟩ K8
  refine go_ifF 24 (D d30_21) rfl (by decide) ?_
  refine go_iload_n 25 (D d30_24) rfl rfl ?_
  refine go_iload_n 26 (D d30_25) rfl rfl ?_
  refine go_aload_n 27 (D d30_26) rfl rfl rfl ?_
  refine go_getF 30 (wk G 61) Via.refl p5 (D d30_27) rfl ?_
  refine callS0 (cells' := 0) (slots' := 0) (Wd := 0) (argsL := [(.int p), (.int (Int32.ofNat (1 + (rep p).length))), (.ref t)]) (rest := []) (pay_of (a0 := a0) (c_getch l G p (Int32.ofNat (1 + (rep p).length)) t k L 1 h0 O0 p3 rfl (by decide) p9 p8) (wk G 135) (wk G 126)) (wk G 133) (wk G 134) (wk G 126) (wk G 135) pd21 (sz hml) (allS p3 all0) (fun _ hal => (sfS safe_nil sf0)) (D d30_30) (k_v 33 rfl ?_)
  rintro _ h9 ⟨r11, rfl, f12⟩ K10
  refine go_pop 34 (D d30_33) rfl rfl ?_
  refine go_goto 48 (D d30_34) (by decide) rfl ?_
  refine go_aload_n 49 (D d30_48) rfl rfl rfl ?_
  refine go_iload_n 50 (D d30_49) rfl rfl ?_
  have F13 := (p7.keep K10 (ninS p4 nin0))
  have E14 := (p1.keep K10)
  refine go_putF 53 (wk G 85) Via.refl F13 E14 (Or.inl (wk G 86)) (wk G 48) (ty := .int) (v' := (.int (Int32.ofNat (1 + (rep p).length)))) (by decide) rfl rfl p2 (Or.inr rfl) (D d30_50) rfl (fun h15 W16 => ?_)
  have F17 := Fld.same W16 F13
  refine go_aload_n 54 (D d30_53) rfl rfl rfl ?_
  have K18 : Keep h0 h9 [a, t] := ((Keep.refl h0 [a, t]).trans K10 (allS (Or.inl (by simp)) all0))
  have K19 : Keep h0 h15 [a, t] := (K18.wr W16 (Or.inl (by simp)))
  have F20 := ((p5.keep K10 (ninS p4 nin0)).other W16 (Or.inr (slot_ne (t := (.array .byte)) (t' := .int) (Or.inl (wk G 62)) (Or.inl (wk G 86)) (by decide) (by decide) (by decide))))
  have F21 := ((p6.keep K10 (ninS p4 nin0)).other W16 (Or.inr (slot_ne (t := .byte) (t' := .int) (Or.inl (wk G 64)) (Or.inl (wk G 86)) (by decide) (by decide) (by decide))))
  have A22 := (f12.other W16 (Ne.symm p4))
  refine go_areturn hret hlk rfl rfl (D d30_54) (by decide) (by decide) ⟨_, rfl, ⟨rfl, F20, F21, F17, A22⟩⟩ K19
theorem c_sbappi1 (G : GH Z a0) (a : Addr) (p : Int32) (t : Addr) (k : ClassId) (L : List Value) (h0 : Heap) (O0 : Old Z Z.heap.size h0) (p1 : Exa Z h0 a "java/lang/StringBuilder") (p2 : Z.heap.size ≤ a) (p3 : Z.heap.size ≤ t) (p4 : a ≠ t) (p5 : Fld Z h0 a "java/lang/AbstractStringBuilder" "value" "[B" (.ref t)) (p6 : Fld Z h0 a "java/lang/AbstractStringBuilder" "coder" "B" (.int 0)) (p7 : Fld Z h0 a "java/lang/AbstractStringBuilder" "count" "I" (.int 1)) (p8 : Arv Z h0 t k (.byte) (16 : Int32) L (.int 0)) (p9 : L.length = 16) : Con false [] l Z (⟨"java/lang/StringBuilder", "append", "(I)Ljava/lang/StringBuilder;"⟩ : MethodName) jdk_67_method_15_code 2 (some (.object "java/lang/StringBuilder")) [] (rm4 2 0 0 33) #[(.ref a), (.int p)] h0 [a, t] (rvl (Q_sbappi1 Z a p t k L h0)) := by
  refine conN G (plainFor_of_name pn3) O0 (fun m => ef3 m a p) ?_
  intro _ _ _ m_ _ _ _ D hml hret hlk hnm
  refine go_aload_n 1 (D d29_0) rfl rfl rfl ?_
  refine go_iload_n 2 (D d29_1) rfl rfl ?_
  refine callU0 (cells' := 0) (slots' := 0) (Wd := 0) (argsL := [(.int p)]) (rest := []) (pay_of (a0 := a0) (c_asbappi1 l G a p t k L h0 O0 p1 p2 p3 p4 p5 p6 p7 p8 p9) (wk G 123) (wk G 57)) (Ins.self p1) (wk G 120) (same_self (z := (⟨"java/lang/AbstractStringBuilder", "ensureCapacityInternal", "(I)V"⟩ : MethodName)) rfl (wk G 90) (wk G 121) (by decide)) (wk G 121) (wk G 72) (wk G 123) pd22 (sz hml) (allS p2 (allS p3 all0)) (fun _ hal => (sfS safe_nil (sfS safe_nil sf0))) (D d29_2) (k_v 5 rfl ?_)
  rintro _ h1 ⟨rfl, f3, f4, f5, f6⟩ K2
  refine go_pop 6 (D d29_5) rfl rfl ?_
  refine go_aload_n 7 (D d29_6) rfl rfl rfl ?_
  have K7 : Keep h0 h1 [a, t] := ((Keep.refl h0 [a, t]).trans K2 (allS (Or.inl (by simp)) (allS (Or.inl (by simp)) all0)))
  refine go_areturn hret hlk rfl rfl (D d29_7) (by decide) (by decide) ⟨_, rfl, ⟨rfl, f3, f4, f5, f6⟩⟩ K7
theorem c_hpts0 (G : GH Z a0) (a : Addr) (s : Addr) (p : Int32) (h0 : Heap) (O0 : Old Z Z.heap.size h0) (p1 : Fld Z h0 a "com/example/onceward/onceward/HostPort" "host" "Ljava/lang/String;" (.ref s)) (p2 : Fld Z h0 a "com/example/onceward/onceward/HostPort" "port" "I" (.int p)) (p3 : Str Z h0 s []) : Con true EL1 l Z (⟨"com/example/onceward/onceward/HostPort", "toString", "()Ljava/lang/String;"⟩ : MethodName) prog_9_method_7_code 1 (some (.object "java/lang/String")) [] (rm4 6 6 48 91) #[(.ref a)] h0 [] (rvl (Q_hpts0 Z a s p h0)) := by
  refine conW G (plainFor_of_name pn6) O0 (fun m => ef4 m a) ?_
  intro _ _ _ m_ _ _ _ D hml hret hlk hnm
  refine go_newO 3 (cells' := 1) (slots' := 4) (wk G 47) (wk G 48) (wk G 49) (D d24_0) rfl rfl rfl (by decide) (by decide) (fun h1 a2 g3 X4 E5 D6 U7 => ?_)
  refine go_dup 4 (D d24_3) rfl rfl ?_
  have F8 := D6 (Or.inl (wk G 62)) (ty := (.array .byte)) (by decide)
  have F9 := D6 (Or.inl (wk G 64)) (ty := .byte) (by decide)
  have F10 := D6 (Or.inl (wk G 86)) (ty := .int) (by decide)
  refine go_old (fun O11 => ?_)
  refine callI0 (cells' := 2) (slots' := 20) (Wd := 1) (argsL := []) (rest := [(.ref a2)]) (pay_of (a0 := a0) (c_sbinit l G a2 h1 O11 E5 (Nat.le_trans O0.2.1 (Nat.le_of_eq g3)) F8 F9 F10) (wk G 52) (wk G 49)) rfl (wk G 50) (wk G 51) (wk G 52) pd14 (sz hml) (allS (Nat.le_trans O0.2.1 (Nat.le_of_eq g3)) all0) (fun _ hal => (sfS (Safe.exa hal E5 (by decide) (by decide)) sf0)) (D d24_4) (k_n 7 rfl ?_)
  rintro  h12 ⟨r14, r15, f16, f17, f18, f19, f20⟩ K13
  refine go_aload_n 8 (D d24_7) rfl rfl rfl ?_
  have K21 : Keep h0 h1 [] := ((Keep.refl h0 []).ext X4)
  have K22 : Keep h0 h12 [] := (K21.trans K13 (allS (Or.inr (Nat.le_of_eq g3)) all0))
  have F23 := (p1.keep K22 nin0)
  refine go_getF 11 (wk G 38) Via.refl F23 (D d24_8) rfl ?_
  have E24 := (E5.keep K13)
  have S25 := (p3.keep K22)
  refine go_old (fun O26 => ?_)
  refine callV0 (cells' := 2) (slots' := 20) (Wd := 0) (argsL := [(.ref s)]) (rest := []) (pay_of (a0 := a0) (c_sbapp0_0 l G a2 s r14 r15 (0 : Int32) (0 : Int32) (0 : Int32) (0 : Int32) (0 : Int32) (0 : Int32) (0 : Int32) (0 : Int32) (0 : Int32) (0 : Int32) (0 : Int32) (0 : Int32) (0 : Int32) (0 : Int32) (0 : Int32) (0 : Int32) h12 O26 E24 (Nat.le_trans O0.2.1 (Nat.le_of_eq g3)) (Nat.le_trans O0.2.1 (Nat.le_trans K21.1 f16)) (Nat.ne_of_lt (Nat.lt_of_lt_of_le E5.lt f16)) f17 f18 f19 S25 f20) (wk G 69) (wk G 49)) E24 (wk G 65) (wk G 66) (wk G 68) (wk G 68) (wk G 67) pd19 (sz hml) (allS (Nat.le_trans O0.2.1 (Nat.le_of_eq g3)) (allS (Nat.le_trans O0.2.1 (Nat.le_trans K21.1 f16)) all0)) (fun _ hal => (sfS (Safe.exa hal E24 (by decide) (by decide)) (sfS (safe16 (ew16 G) hal f20) sf0))) (D d24_11) (k_v 14 rfl ?_)
  rintro _ h27 ⟨rfl, f29, f30, f31, f32⟩ K28
  refine go_ldcH 16 (cells' := 4) (slots' := 28) (n := 4) (vs := (([(58 : Int32)] : List Int32).map fun c => c.toInt8.toInt32).map Value.int) (z := (1 : Int32)) rfl (by decide) (wk G 112) (wS G) (by decide +kernel) (by decide) (by decide) (by decide) (by decide) (D d24_14) rfl rfl rfl (by decide) (by decide) (fun h33 a34 t36 k37 X35 E38 F39 F40 A41 => ?_)
  have S42 : Str Z h33 a34 [(58 : Int32)] := ⟨t36, k37, E38, F40, F39, A41, by decide, by decide⟩
  have E43 := ((E24.keep K28).ext X35)
  have K44 : Keep h27 h33 [] := ((Keep.refl h27 []).ext X35)
  have F45 := (f29.keep K44 nin0)
  have F46 := (f30.keep K44 nin0)
  have F47 := (f31.keep K44 nin0)
  have A48 := (f32.keep K44 nin0)
  refine go_old (fun O49 => ?_)
  refine callV0 (cells' := 4) (slots' := 28) (Wd := 0) (argsL := [(.ref a34)]) (rest := []) (pay_of (a0 := a0) (c_sbapp0_1 l G a2 a34 r14 r15 (58 : Int32) (0 : Int32) (0 : Int32) (0 : Int32) (0 : Int32) (0 : Int32) (0 : Int32) (0 : Int32) (0 : Int32) (0 : Int32) (0 : Int32) (0 : Int32) (0 : Int32) (0 : Int32) (0 : Int32) (0 : Int32) (0 : Int32) h33 O49 E43 (Nat.le_trans O0.2.1 (Nat.le_of_eq g3)) (Nat.le_trans O0.2.1 (Nat.le_trans K21.1 f16)) (Nat.ne_of_lt (Nat.lt_of_lt_of_le E5.lt f16)) F45 F46 F47 S42 A48) (wk G 69) (wk G 49)) E43 (wk G 65) (wk G 66) (wk G 68) (wk G 68) (wk G 67) pd19 (sz hml) (allS (Nat.le_trans O0.2.1 (Nat.le_of_eq g3)) (allS (Nat.le_trans O0.2.1 (Nat.le_trans K21.1 f16)) all0)) (fun _ hal => (sfS (Safe.exa hal E43 (by decide) (by decide)) (sfS (safe16 (ew16 G) hal A48) sf0))) (D d24_16) (k_v 19 rfl ?_)
  rintro _ h50 ⟨rfl, f52, f53, f54, f55⟩ K51
  refine go_aload_n 20 (D d24_19) rfl rfl rfl ?_
  have K56 : Keep h0 h27 [] := (K22.trans K28 (allS (Or.inr (Nat.le_of_eq g3)) (allS (Or.inr (Nat.le_trans K21.1 f16)) all0)))
  have K57 : Keep h0 h33 [] := (K56.ext X35)
  have K58 : Keep h0 h50 [] := (K57.trans K51 (allS (Or.inr (Nat.le_of_eq g3)) (allS (Or.inr (Nat.le_trans K21.1 f16)) all0)))
  have F59 := (p2.keep K58 nin0)
  refine go_getF 23 (wk G 40) Via.refl F59 (D d24_20) rfl ?_
  have E60 := (E43.keep K51)
  refine go_old (fun O61 => ?_)
  refine callV0 (cells' := 4) (slots' := 28) (Wd := 0) (argsL := [(.int p)]) (rest := []) (pay_of (a0 := a0) (c_sbappi1 l G a2 p r14 r15 [(.int ((58 : Int32)).toInt8.toInt32), (.int 0), (.int 0), (.int 0), (.int 0), (.int 0), (.int 0), (.int 0), (.int 0), (.int 0), (.int 0), (.int 0), (.int 0), (.int 0), (.int 0), (.int 0)] h50 O61 E60 (Nat.le_trans O0.2.1 (Nat.le_of_eq g3)) (Nat.le_trans O0.2.1 (Nat.le_trans K21.1 f16)) (Nat.ne_of_lt (Nat.lt_of_lt_of_le E5.lt f16)) f52 f53 f54 f55 rfl) (wk G 119) (wk G 49)) E60 (wk G 115) (wk G 116) (wk G 118) (wk G 118) (wk G 117) pd23 (sz hml) (allS (Nat.le_trans O0.2.1 (Nat.le_of_eq g3)) (allS (Nat.le_trans O0.2.1 (Nat.le_trans K21.1 f16)) all0)) (fun _ hal => (sfS (Safe.exa hal E60 (by decide) (by decide)) (sfS (safe16 (ew16 G) hal f55) sf0))) (D d24_23) (k_v 26 rfl ?_)
  rintro _ h62 ⟨rfl, f64, f65, f66, f67⟩ K63
  have E68 := (E60.keep K63)
  refine go_old (fun O69 => ?_)
  refine callV0 (cells' := 6) (slots' := 48) (Wd := 0) (argsL := []) (rest := []) (pay_of (a0 := a0) (c_sbts l G a2 r14 r15 (tk [(.int ((58 : Int32)).toInt8.toInt32), (.int 0), (.int 0), (.int 0), (.int 0), (.int 0), (.int 0), (.int 0), (.int 0), (.int 0), (.int 0), (.int 0), (.int 0), (.int 0), (.int 0), (.int 0)] 1 ((rep p).map Value.int) (1 + (rep p).length)) (1 + (rep p).length) h62 O69 E68 f64 f65 f66 f67 (tk16 rfl (by decide)) (by have := rep_b p; omega)) (wk G 141) (wk G 49)) E68 (wk G 137) (wk G 138) (wk G 140) (wk G 140) (wk G 139) pd24 (sz hml) all0 sf00 (D d24_26) (k_v 29 rfl ?_)
  rintro _ h70 ⟨r72, r73, r74, rfl, f75, f76, f77, f78, f79⟩ K71
  have S80 : Str Z h70 r72 ([(58 : Int32)] ++ rep p) := mk_str (L := [(.int ((58 : Int32)).toInt8.toInt32), (.int 0), (.int 0), (.int 0), (.int 0), (.int 0), (.int 0), (.int 0), (.int 0), (.int 0), (.int 0), (.int 0), (.int 0), (.int 0), (.int 0), (.int 0)]) rfl f76 f77 f78 f79 rfl (nb rfl) (c8c (by decide) c8n)
  have K81 : Keep h0 h62 [] := (K58.trans K63 (allS (Or.inr (Nat.le_of_eq g3)) (allS (Or.inr (Nat.le_trans K21.1 f16)) all0)))
  have K82 : Keep h0 h70 [] := (K81.trans K71 all0)
  refine go_areturn hret hlk rfl rfl (D d24_29) (by decide) (by decide) ⟨_, rfl, ⟨r72, rfl, S80⟩⟩ K82
theorem ef20 (m : MethodId) (v0 : Addr) (v1 v2 : Int32) (v3 : Int64) (v4 : Int32) : entryFrame m #[(.ref v0), (.int v1), (.int v2), (.long v3), (.int v4)] 9 = mkF m 0 #[.val (.ref v0), .val (.int v1), .val (.int v2), .val (.long v3), .second, .val (.int v4), .unset, .unset, .unset] [] := by first | (simp [entryFrame, mkF, argsToLocals, Value.category]; done) | rfl
def Q_digok0 (Z : State) (a : Addr) (b u : Int32) (v : Int64) (p : Int32) (B : Nat) (cs : List Int32) (h0 : Heap) (xv : Value) (h : Heap) : Prop := (.int 1) = xv
theorem c_digok0 (G : GH Z a0) (a : Addr) (b u : Int32) (v : Int64) (p : Int32) (B : Nat) (cs : List Int32) (h0 : Heap) (O0 : Old Z Z.heap.size h0) (p1 : Str Z h0 a cs) (p2 : b = Int32.ofNat B) (p3 : u = Int32.ofNat (ndg (mag p))) (p4 : v = vabs p) (p5 : dgt cs B p) (p6 : B ≤ 4) (p7 : cs.length = B + ndg (mag p)) : Con false [] l Z (⟨"com/example/onceward/onceward/HostPortToStringPinLaw", "digitOk", "(Ljava/lang/String;IIJI)Z"⟩ : MethodName) method_5_code 9 (some .boolean) [] (rm4 4 1 10 53) #[(.ref a), (.int b), (.int u), (.long v), (.int 0)] h0 [] (rvl (Q_digok0 Z a b u v p B cs h0)) := by
  refine conN G (plainFor_of_name pn7) O0 (fun m => ef20 m a b u v (0 : Int32)) ?_
  intro _ _ _ m_ _ _ _ D hml hret hlk hnm
  subst p2 p3 p4
  refine go_iload 2 (D d31_0) rfl rfl ?_
  refine go_iload_n 3 (D d31_2) rfl rfl ?_
  by_cases cz1 : (0 : Int32) < (Int32.ofNat (ndg (mag p)))
  · refine go_icT 8 (D d31_3) (by decide) rfl (XT.ii_lt_t cz1) ?_
    have hk : 0 < ndg (mag p) := ofn_ltn (by decide) (by have := ndg_b (mag p); omega) cz1
    refine go_iload_n 9 (D d31_8) rfl rfl ?_
    refine go_iconst 10 (v := 1) (D d31_9) rfl rfl ?_
    refine go_isub 11 (z := (Int32.ofNat (ndg (mag p) - 1))) (D d31_10) rfl (ofn_sub (k := 1) (by have := ndg_b (mag p); omega) (by have := ndg_b (mag p); omega)) ?_
    refine go_iload 13 (D d31_11) rfl rfl ?_
    refine go_isub 14 (z := (Int32.ofNat (ndg (mag p) - 1 - 0))) (D d31_13) rfl (ofn_sub (k := 0) (by have := ndg_b (mag p); omega) (by omega)) ?_
    refine callS0 (cells' := 1) (slots' := 10) (Wd := 0) (argsL := [(.int (Int32.ofNat (ndg (mag p) - 1 - 0)))]) (rest := []) (pay_of (a0 := a0) (c_pow10 l G (Int32.ofNat (ndg (mag p) - 1 - 0)) (ndg (mag p) - 1 - 0) h0 O0 rfl (by have := ndg_b (mag p); omega)) (wk G 211) (wk G 180)) (wk G 209) (wk G 210) (wk G 180) (wk G 211) pd27 (sz hml) all0 sf00 (D d31_14) (k_v 17 rfl ?_)
    rintro _ h2 rfl K3
    refine go_lstore 19 (ls' := #[vr a, vi (Int32.ofNat B), vi (Int32.ofNat (ndg (mag p))), .val (.long (vabs p)), .second, vi 0, .val (.long (p10 (ndg (mag p) - 1 - 0))), .second, un]) (D d31_17) rfl rfl ?_
    refine go_lload_n 20 (D d31_19) rfl rfl ?_
    refine go_lload 22 (D d31_20) rfl rfl ?_
    refine go_ldiv 23 (z := ((vabs p) / (p10 (ndg (mag p) - 1 - 0)))) (D d31_22) rfl (p10_ne (by have := ndg_b (mag p); omega)) rfl ?_
    refine go_ldcJ 26 (v := (10 : Int64)) (wk G 182) (D d31_23) rfl ?_
    refine go_lrem 27 (z := (((vabs p) / (p10 (ndg (mag p) - 1 - 0))) - (((vabs p) / (p10 (ndg (mag p) - 1 - 0))) / (10 : Int64)) * (10 : Int64))) (D d31_26) rfl (by decide) rfl ?_
    refine go_l2i 28 (z := (Int32.ofNat (mag p / 10 ^ (ndg (mag p) - 1 - 0) % 10))) (D d31_27) rfl (l_dig (by have := ndg_b (mag p); omega)) ?_
    refine go_istore 30 (ls' := #[vr a, vi (Int32.ofNat B), vi (Int32.ofNat (ndg (mag p))), .val (.long (vabs p)), .second, vi 0, .val (.long (p10 (ndg (mag p) - 1 - 0))), .second, vi (Int32.ofNat (mag p / 10 ^ (ndg (mag p) - 1 - 0) % 10))]) (D d31_28) rfl rfl ?_
    refine go_aload_n 31 (D d31_30) rfl rfl rfl ?_
    refine go_iload_n 32 (D d31_31) rfl rfl ?_
    refine go_iload 34 (D d31_32) rfl rfl ?_
    refine go_iadd 35 (z := (Int32.ofNat (B + 0))) (D d31_34) rfl (ofn_add (k := 0) (by omega)) ?_
    have K4 : Keep h0 h2 [] := ((Keep.refl h0 []).trans K3 all0)
    have S5 := (p1.keep K4)
    refine go_old (fun O6 => ?_)
    have E7 := (p1.exa.keep K4)
    refine callV0 (cells' := 1) (slots' := 10) (Wd := 0) (argsL := [(.int (Int32.ofNat (B + 0)))]) (rest := []) (pay_chr G O6 (i := B + 0) (c := (dch (mag p / 10 ^ (ndg (mag p) - 1 - 0)))) S5 rfl (by rw [p7]; omega) (gd_of (p5 0 hk)) (by decide) (by decide)) E7 (wk G 184) (wk G 185) (wk G 187) (wk G 187) (wk G 186) pd26 (sz hml) all0 sf00 (D d31_35) (k_v 38 rfl ?_)
    rintro _ _ ⟨rfl, rfl⟩ -
    refine go_bipush 40 (v := 48) (D d31_38) rfl rfl ?_
    refine go_iload 42 (D d31_40) rfl rfl ?_
    refine go_iadd 43 (z := (dch (mag p / 10 ^ (ndg (mag p) - 1 - 0)))) (D d31_42) rfl (dch_add _) ?_
    refine go_i2c 44 (z := (dch (mag p / 10 ^ (ndg (mag p) - 1 - 0)))) (D d31_43) rfl (i2c_c8 (dch_c8 _)) ?_
    refine go_icF 47 (D d31_44) rfl (XT.ii_ne_f rfl) ?_
    refine go_iconst 48 (v := 1) (D d31_47) rfl rfl ?_
    refine go_goto 52 (D d31_48) (by decide) rfl ?_
    refine go_ireturn hret hlk rfl (by simp) (D d31_52) (by decide) (by decide) ⟨_, rfl, rfl⟩ K4
  · refine go_icF 6 (D d31_3) rfl (XT.ii_lt_f cz1) ?_
    refine go_iconst 7 (v := 1) (D d31_6) rfl rfl ?_
    refine go_ireturn hret hlk rfl (by simp) (D d31_7) (by decide) (by decide) ⟨_, rfl, rfl⟩ (Keep.refl h0 [])
def Q_digok1 (Z : State) (a : Addr) (b u : Int32) (v : Int64) (p : Int32) (B : Nat) (cs : List Int32) (h0 : Heap) (xv : Value) (h : Heap) : Prop := (.int 1) = xv
theorem c_digok1 (G : GH Z a0) (a : Addr) (b u : Int32) (v : Int64) (p : Int32) (B : Nat) (cs : List Int32) (h0 : Heap) (O0 : Old Z Z.heap.size h0) (p1 : Str Z h0 a cs) (p2 : b = Int32.ofNat B) (p3 : u = Int32.ofNat (ndg (mag p))) (p4 : v = vabs p) (p5 : dgt cs B p) (p6 : B ≤ 4) (p7 : cs.length = B + ndg (mag p)) : Con false [] l Z (⟨"com/example/onceward/onceward/HostPortToStringPinLaw", "digitOk", "(Ljava/lang/String;IIJI)Z"⟩ : MethodName) method_5_code 9 (some .boolean) [] (rm4 4 1 10 53) #[(.ref a), (.int b), (.int u), (.long v), (.int 1)] h0 [] (rvl (Q_digok1 Z a b u v p B cs h0)) := by
  refine conN G (plainFor_of_name pn7) O0 (fun m => ef20 m a b u v (1 : Int32)) ?_
  intro _ _ _ m_ _ _ _ D hml hret hlk hnm
  subst p2 p3 p4
  refine go_iload 2 (D d31_0) rfl rfl ?_
  refine go_iload_n 3 (D d31_2) rfl rfl ?_
  by_cases cz1 : (1 : Int32) < (Int32.ofNat (ndg (mag p)))
  · refine go_icT 8 (D d31_3) (by decide) rfl (XT.ii_lt_t cz1) ?_
    have hk : 1 < ndg (mag p) := ofn_ltn (by decide) (by have := ndg_b (mag p); omega) cz1
    refine go_iload_n 9 (D d31_8) rfl rfl ?_
    refine go_iconst 10 (v := 1) (D d31_9) rfl rfl ?_
    refine go_isub 11 (z := (Int32.ofNat (ndg (mag p) - 1))) (D d31_10) rfl (ofn_sub (k := 1) (by have := ndg_b (mag p); omega) (by have := ndg_b (mag p); omega)) ?_
    refine go_iload 13 (D d31_11) rfl rfl ?_
    refine go_isub 14 (z := (Int32.ofNat (ndg (mag p) - 1 - 1))) (D d31_13) rfl (ofn_sub (k := 1) (by have := ndg_b (mag p); omega) (by omega)) ?_
    refine callS0 (cells' := 1) (slots' := 10) (Wd := 0) (argsL := [(.int (Int32.ofNat (ndg (mag p) - 1 - 1)))]) (rest := []) (pay_of (a0 := a0) (c_pow10 l G (Int32.ofNat (ndg (mag p) - 1 - 1)) (ndg (mag p) - 1 - 1) h0 O0 rfl (by have := ndg_b (mag p); omega)) (wk G 211) (wk G 180)) (wk G 209) (wk G 210) (wk G 180) (wk G 211) pd27 (sz hml) all0 sf00 (D d31_14) (k_v 17 rfl ?_)
    rintro _ h2 rfl K3
    refine go_lstore 19 (ls' := #[vr a, vi (Int32.ofNat B), vi (Int32.ofNat (ndg (mag p))), .val (.long (vabs p)), .second, vi 1, .val (.long (p10 (ndg (mag p) - 1 - 1))), .second, un]) (D d31_17) rfl rfl ?_
    refine go_lload_n 20 (D d31_19) rfl rfl ?_
    refine go_lload 22 (D d31_20) rfl rfl ?_
    refine go_ldiv 23 (z := ((vabs p) / (p10 (ndg (mag p) - 1 - 1)))) (D d31_22) rfl (p10_ne (by have := ndg_b (mag p); omega)) rfl ?_
    refine go_ldcJ 26 (v := (10 : Int64)) (wk G 182) (D d31_23) rfl ?_
    refine go_lrem 27 (z := (((vabs p) / (p10 (ndg (mag p) - 1 - 1))) - (((vabs p) / (p10 (ndg (mag p) - 1 - 1))) / (10 : Int64)) * (10 : Int64))) (D d31_26) rfl (by decide) rfl ?_
    refine go_l2i 28 (z := (Int32.ofNat (mag p / 10 ^ (ndg (mag p) - 1 - 1) % 10))) (D d31_27) rfl (l_dig (by have := ndg_b (mag p); omega)) ?_
    refine go_istore 30 (ls' := #[vr a, vi (Int32.ofNat B), vi (Int32.ofNat (ndg (mag p))), .val (.long (vabs p)), .second, vi 1, .val (.long (p10 (ndg (mag p) - 1 - 1))), .second, vi (Int32.ofNat (mag p / 10 ^ (ndg (mag p) - 1 - 1) % 10))]) (D d31_28) rfl rfl ?_
    refine go_aload_n 31 (D d31_30) rfl rfl rfl ?_
    refine go_iload_n 32 (D d31_31) rfl rfl ?_
    refine go_iload 34 (D d31_32) rfl rfl ?_
    refine go_iadd 35 (z := (Int32.ofNat (B + 1))) (D d31_34) rfl (ofn_add (k := 1) (by omega)) ?_
    have K4 : Keep h0 h2 [] := ((Keep.refl h0 []).trans K3 all0)
    have S5 := (p1.keep K4)
    refine go_old (fun O6 => ?_)
    have E7 := (p1.exa.keep K4)
    refine callV0 (cells' := 1) (slots' := 10) (Wd := 0) (argsL := [(.int (Int32.ofNat (B + 1)))]) (rest := []) (pay_chr G O6 (i := B + 1) (c := (dch (mag p / 10 ^ (ndg (mag p) - 1 - 1)))) S5 rfl (by rw [p7]; omega) (gd_of (p5 1 hk)) (by decide) (by decide)) E7 (wk G 184) (wk G 185) (wk G 187) (wk G 187) (wk G 186) pd26 (sz hml) all0 sf00 (D d31_35) (k_v 38 rfl ?_)
    rintro _ _ ⟨rfl, rfl⟩ -
    refine go_bipush 40 (v := 48) (D d31_38) rfl rfl ?_
    refine go_iload 42 (D d31_40) rfl rfl ?_
    refine go_iadd 43 (z := (dch (mag p / 10 ^ (ndg (mag p) - 1 - 1)))) (D d31_42) rfl (dch_add _) ?_
    refine go_i2c 44 (z := (dch (mag p / 10 ^ (ndg (mag p) - 1 - 1)))) (D d31_43) rfl (i2c_c8 (dch_c8 _)) ?_
    refine go_icF 47 (D d31_44) rfl (XT.ii_ne_f rfl) ?_
    refine go_iconst 48 (v := 1) (D d31_47) rfl rfl ?_
    refine go_goto 52 (D d31_48) (by decide) rfl ?_
    refine go_ireturn hret hlk rfl (by simp) (D d31_52) (by decide) (by decide) ⟨_, rfl, rfl⟩ K4
  · refine go_icF 6 (D d31_3) rfl (XT.ii_lt_f cz1) ?_
    refine go_iconst 7 (v := 1) (D d31_6) rfl rfl ?_
    refine go_ireturn hret hlk rfl (by simp) (D d31_7) (by decide) (by decide) ⟨_, rfl, rfl⟩ (Keep.refl h0 [])
def Q_digok2 (Z : State) (a : Addr) (b u : Int32) (v : Int64) (p : Int32) (B : Nat) (cs : List Int32) (h0 : Heap) (xv : Value) (h : Heap) : Prop := (.int 1) = xv
theorem c_digok2 (G : GH Z a0) (a : Addr) (b u : Int32) (v : Int64) (p : Int32) (B : Nat) (cs : List Int32) (h0 : Heap) (O0 : Old Z Z.heap.size h0) (p1 : Str Z h0 a cs) (p2 : b = Int32.ofNat B) (p3 : u = Int32.ofNat (ndg (mag p))) (p4 : v = vabs p) (p5 : dgt cs B p) (p6 : B ≤ 4) (p7 : cs.length = B + ndg (mag p)) : Con false [] l Z (⟨"com/example/onceward/onceward/HostPortToStringPinLaw", "digitOk", "(Ljava/lang/String;IIJI)Z"⟩ : MethodName) method_5_code 9 (some .boolean) [] (rm4 4 1 10 53) #[(.ref a), (.int b), (.int u), (.long v), (.int 2)] h0 [] (rvl (Q_digok2 Z a b u v p B cs h0)) := by
  refine conN G (plainFor_of_name pn7) O0 (fun m => ef20 m a b u v (2 : Int32)) ?_
  intro _ _ _ m_ _ _ _ D hml hret hlk hnm
  subst p2 p3 p4
  refine go_iload 2 (D d31_0) rfl rfl ?_
  refine go_iload_n 3 (D d31_2) rfl rfl ?_
  by_cases cz1 : (2 : Int32) < (Int32.ofNat (ndg (mag p)))
  · refine go_icT 8 (D d31_3) (by decide) rfl (XT.ii_lt_t cz1) ?_
    have hk : 2 < ndg (mag p) := ofn_ltn (by decide) (by have := ndg_b (mag p); omega) cz1
    refine go_iload_n 9 (D d31_8) rfl rfl ?_
    refine go_iconst 10 (v := 1) (D d31_9) rfl rfl ?_
    refine go_isub 11 (z := (Int32.ofNat (ndg (mag p) - 1))) (D d31_10) rfl (ofn_sub (k := 1) (by have := ndg_b (mag p); omega) (by have := ndg_b (mag p); omega)) ?_
    refine go_iload 13 (D d31_11) rfl rfl ?_
    refine go_isub 14 (z := (Int32.ofNat (ndg (mag p) - 1 - 2))) (D d31_13) rfl (ofn_sub (k := 2) (by have := ndg_b (mag p); omega) (by omega)) ?_
    refine callS0 (cells' := 1) (slots' := 10) (Wd := 0) (argsL := [(.int (Int32.ofNat (ndg (mag p) - 1 - 2)))]) (rest := []) (pay_of (a0 := a0) (c_pow10 l G (Int32.ofNat (ndg (mag p) - 1 - 2)) (ndg (mag p) - 1 - 2) h0 O0 rfl (by have := ndg_b (mag p); omega)) (wk G 211) (wk G 180)) (wk G 209) (wk G 210) (wk G 180) (wk G 211) pd27 (sz hml) all0 sf00 (D d31_14) (k_v 17 rfl ?_)
    rintro _ h2 rfl K3
    refine go_lstore 19 (ls' := #[vr a, vi (Int32.ofNat B), vi (Int32.ofNat (ndg (mag p))), .val (.long (vabs p)), .second, vi 2, .val (.long (p10 (ndg (mag p) - 1 - 2))), .second, un]) (D d31_17) rfl rfl ?_
    refine go_lload_n 20 (D d31_19) rfl rfl ?_
    refine go_lload 22 (D d31_20) rfl rfl ?_
    refine go_ldiv 23 (z := ((vabs p) / (p10 (ndg (mag p) - 1 - 2)))) (D d31_22) rfl (p10_ne (by have := ndg_b (mag p); omega)) rfl ?_
    refine go_ldcJ 26 (v := (10 : Int64)) (wk G 182) (D d31_23) rfl ?_
    refine go_lrem 27 (z := (((vabs p) / (p10 (ndg (mag p) - 1 - 2))) - (((vabs p) / (p10 (ndg (mag p) - 1 - 2))) / (10 : Int64)) * (10 : Int64))) (D d31_26) rfl (by decide) rfl ?_
    refine go_l2i 28 (z := (Int32.ofNat (mag p / 10 ^ (ndg (mag p) - 1 - 2) % 10))) (D d31_27) rfl (l_dig (by have := ndg_b (mag p); omega)) ?_
    refine go_istore 30 (ls' := #[vr a, vi (Int32.ofNat B), vi (Int32.ofNat (ndg (mag p))), .val (.long (vabs p)), .second, vi 2, .val (.long (p10 (ndg (mag p) - 1 - 2))), .second, vi (Int32.ofNat (mag p / 10 ^ (ndg (mag p) - 1 - 2) % 10))]) (D d31_28) rfl rfl ?_
    refine go_aload_n 31 (D d31_30) rfl rfl rfl ?_
    refine go_iload_n 32 (D d31_31) rfl rfl ?_
    refine go_iload 34 (D d31_32) rfl rfl ?_
    refine go_iadd 35 (z := (Int32.ofNat (B + 2))) (D d31_34) rfl (ofn_add (k := 2) (by omega)) ?_
    have K4 : Keep h0 h2 [] := ((Keep.refl h0 []).trans K3 all0)
    have S5 := (p1.keep K4)
    refine go_old (fun O6 => ?_)
    have E7 := (p1.exa.keep K4)
    refine callV0 (cells' := 1) (slots' := 10) (Wd := 0) (argsL := [(.int (Int32.ofNat (B + 2)))]) (rest := []) (pay_chr G O6 (i := B + 2) (c := (dch (mag p / 10 ^ (ndg (mag p) - 1 - 2)))) S5 rfl (by rw [p7]; omega) (gd_of (p5 2 hk)) (by decide) (by decide)) E7 (wk G 184) (wk G 185) (wk G 187) (wk G 187) (wk G 186) pd26 (sz hml) all0 sf00 (D d31_35) (k_v 38 rfl ?_)
    rintro _ _ ⟨rfl, rfl⟩ -
    refine go_bipush 40 (v := 48) (D d31_38) rfl rfl ?_
    refine go_iload 42 (D d31_40) rfl rfl ?_
    refine go_iadd 43 (z := (dch (mag p / 10 ^ (ndg (mag p) - 1 - 2)))) (D d31_42) rfl (dch_add _) ?_
    refine go_i2c 44 (z := (dch (mag p / 10 ^ (ndg (mag p) - 1 - 2)))) (D d31_43) rfl (i2c_c8 (dch_c8 _)) ?_
    refine go_icF 47 (D d31_44) rfl (XT.ii_ne_f rfl) ?_
    refine go_iconst 48 (v := 1) (D d31_47) rfl rfl ?_
    refine go_goto 52 (D d31_48) (by decide) rfl ?_
    refine go_ireturn hret hlk rfl (by simp) (D d31_52) (by decide) (by decide) ⟨_, rfl, rfl⟩ K4
  · refine go_icF 6 (D d31_3) rfl (XT.ii_lt_f cz1) ?_
    refine go_iconst 7 (v := 1) (D d31_6) rfl rfl ?_
    refine go_ireturn hret hlk rfl (by simp) (D d31_7) (by decide) (by decide) ⟨_, rfl, rfl⟩ (Keep.refl h0 [])
def Q_digok3 (Z : State) (a : Addr) (b u : Int32) (v : Int64) (p : Int32) (B : Nat) (cs : List Int32) (h0 : Heap) (xv : Value) (h : Heap) : Prop := (.int 1) = xv
theorem c_digok3 (G : GH Z a0) (a : Addr) (b u : Int32) (v : Int64) (p : Int32) (B : Nat) (cs : List Int32) (h0 : Heap) (O0 : Old Z Z.heap.size h0) (p1 : Str Z h0 a cs) (p2 : b = Int32.ofNat B) (p3 : u = Int32.ofNat (ndg (mag p))) (p4 : v = vabs p) (p5 : dgt cs B p) (p6 : B ≤ 4) (p7 : cs.length = B + ndg (mag p)) : Con false [] l Z (⟨"com/example/onceward/onceward/HostPortToStringPinLaw", "digitOk", "(Ljava/lang/String;IIJI)Z"⟩ : MethodName) method_5_code 9 (some .boolean) [] (rm4 4 1 10 53) #[(.ref a), (.int b), (.int u), (.long v), (.int 3)] h0 [] (rvl (Q_digok3 Z a b u v p B cs h0)) := by
  refine conN G (plainFor_of_name pn7) O0 (fun m => ef20 m a b u v (3 : Int32)) ?_
  intro _ _ _ m_ _ _ _ D hml hret hlk hnm
  subst p2 p3 p4
  refine go_iload 2 (D d31_0) rfl rfl ?_
  refine go_iload_n 3 (D d31_2) rfl rfl ?_
  by_cases cz1 : (3 : Int32) < (Int32.ofNat (ndg (mag p)))
  · refine go_icT 8 (D d31_3) (by decide) rfl (XT.ii_lt_t cz1) ?_
    have hk : 3 < ndg (mag p) := ofn_ltn (by decide) (by have := ndg_b (mag p); omega) cz1
    refine go_iload_n 9 (D d31_8) rfl rfl ?_
    refine go_iconst 10 (v := 1) (D d31_9) rfl rfl ?_
    refine go_isub 11 (z := (Int32.ofNat (ndg (mag p) - 1))) (D d31_10) rfl (ofn_sub (k := 1) (by have := ndg_b (mag p); omega) (by have := ndg_b (mag p); omega)) ?_
    refine go_iload 13 (D d31_11) rfl rfl ?_
    refine go_isub 14 (z := (Int32.ofNat (ndg (mag p) - 1 - 3))) (D d31_13) rfl (ofn_sub (k := 3) (by have := ndg_b (mag p); omega) (by omega)) ?_
    refine callS0 (cells' := 1) (slots' := 10) (Wd := 0) (argsL := [(.int (Int32.ofNat (ndg (mag p) - 1 - 3)))]) (rest := []) (pay_of (a0 := a0) (c_pow10 l G (Int32.ofNat (ndg (mag p) - 1 - 3)) (ndg (mag p) - 1 - 3) h0 O0 rfl (by have := ndg_b (mag p); omega)) (wk G 211) (wk G 180)) (wk G 209) (wk G 210) (wk G 180) (wk G 211) pd27 (sz hml) all0 sf00 (D d31_14) (k_v 17 rfl ?_)
    rintro _ h2 rfl K3
    refine go_lstore 19 (ls' := #[vr a, vi (Int32.ofNat B), vi (Int32.ofNat (ndg (mag p))), .val (.long (vabs p)), .second, vi 3, .val (.long (p10 (ndg (mag p) - 1 - 3))), .second, un]) (D d31_17) rfl rfl ?_
    refine go_lload_n 20 (D d31_19) rfl rfl ?_
    refine go_lload 22 (D d31_20) rfl rfl ?_
    refine go_ldiv 23 (z := ((vabs p) / (p10 (ndg (mag p) - 1 - 3)))) (D d31_22) rfl (p10_ne (by have := ndg_b (mag p); omega)) rfl ?_
    refine go_ldcJ 26 (v := (10 : Int64)) (wk G 182) (D d31_23) rfl ?_
    refine go_lrem 27 (z := (((vabs p) / (p10 (ndg (mag p) - 1 - 3))) - (((vabs p) / (p10 (ndg (mag p) - 1 - 3))) / (10 : Int64)) * (10 : Int64))) (D d31_26) rfl (by decide) rfl ?_
    refine go_l2i 28 (z := (Int32.ofNat (mag p / 10 ^ (ndg (mag p) - 1 - 3) % 10))) (D d31_27) rfl (l_dig (by have := ndg_b (mag p); omega)) ?_
    refine go_istore 30 (ls' := #[vr a, vi (Int32.ofNat B), vi (Int32.ofNat (ndg (mag p))), .val (.long (vabs p)), .second, vi 3, .val (.long (p10 (ndg (mag p) - 1 - 3))), .second, vi (Int32.ofNat (mag p / 10 ^ (ndg (mag p) - 1 - 3) % 10))]) (D d31_28) rfl rfl ?_
    refine go_aload_n 31 (D d31_30) rfl rfl rfl ?_
    refine go_iload_n 32 (D d31_31) rfl rfl ?_
    refine go_iload 34 (D d31_32) rfl rfl ?_
    refine go_iadd 35 (z := (Int32.ofNat (B + 3))) (D d31_34) rfl (ofn_add (k := 3) (by omega)) ?_
    have K4 : Keep h0 h2 [] := ((Keep.refl h0 []).trans K3 all0)
    have S5 := (p1.keep K4)
    refine go_old (fun O6 => ?_)
    have E7 := (p1.exa.keep K4)
    refine callV0 (cells' := 1) (slots' := 10) (Wd := 0) (argsL := [(.int (Int32.ofNat (B + 3)))]) (rest := []) (pay_chr G O6 (i := B + 3) (c := (dch (mag p / 10 ^ (ndg (mag p) - 1 - 3)))) S5 rfl (by rw [p7]; omega) (gd_of (p5 3 hk)) (by decide) (by decide)) E7 (wk G 184) (wk G 185) (wk G 187) (wk G 187) (wk G 186) pd26 (sz hml) all0 sf00 (D d31_35) (k_v 38 rfl ?_)
    rintro _ _ ⟨rfl, rfl⟩ -
    refine go_bipush 40 (v := 48) (D d31_38) rfl rfl ?_
    refine go_iload 42 (D d31_40) rfl rfl ?_
    refine go_iadd 43 (z := (dch (mag p / 10 ^ (ndg (mag p) - 1 - 3)))) (D d31_42) rfl (dch_add _) ?_
    refine go_i2c 44 (z := (dch (mag p / 10 ^ (ndg (mag p) - 1 - 3)))) (D d31_43) rfl (i2c_c8 (dch_c8 _)) ?_
    refine go_icF 47 (D d31_44) rfl (XT.ii_ne_f rfl) ?_
    refine go_iconst 48 (v := 1) (D d31_47) rfl rfl ?_
    refine go_goto 52 (D d31_48) (by decide) rfl ?_
    refine go_ireturn hret hlk rfl (by simp) (D d31_52) (by decide) (by decide) ⟨_, rfl, rfl⟩ K4
  · refine go_icF 6 (D d31_3) rfl (XT.ii_lt_f cz1) ?_
    refine go_iconst 7 (v := 1) (D d31_6) rfl rfl ?_
    refine go_ireturn hret hlk rfl (by simp) (D d31_7) (by decide) (by decide) ⟨_, rfl, rfl⟩ (Keep.refl h0 [])
def Q_digok4 (Z : State) (a : Addr) (b u : Int32) (v : Int64) (p : Int32) (B : Nat) (cs : List Int32) (h0 : Heap) (xv : Value) (h : Heap) : Prop := (.int 1) = xv
theorem c_digok4 (G : GH Z a0) (a : Addr) (b u : Int32) (v : Int64) (p : Int32) (B : Nat) (cs : List Int32) (h0 : Heap) (O0 : Old Z Z.heap.size h0) (p1 : Str Z h0 a cs) (p2 : b = Int32.ofNat B) (p3 : u = Int32.ofNat (ndg (mag p))) (p4 : v = vabs p) (p5 : dgt cs B p) (p6 : B ≤ 4) (p7 : cs.length = B + ndg (mag p)) : Con false [] l Z (⟨"com/example/onceward/onceward/HostPortToStringPinLaw", "digitOk", "(Ljava/lang/String;IIJI)Z"⟩ : MethodName) method_5_code 9 (some .boolean) [] (rm4 4 1 10 53) #[(.ref a), (.int b), (.int u), (.long v), (.int 4)] h0 [] (rvl (Q_digok4 Z a b u v p B cs h0)) := by
  refine conN G (plainFor_of_name pn7) O0 (fun m => ef20 m a b u v (4 : Int32)) ?_
  intro _ _ _ m_ _ _ _ D hml hret hlk hnm
  subst p2 p3 p4
  refine go_iload 2 (D d31_0) rfl rfl ?_
  refine go_iload_n 3 (D d31_2) rfl rfl ?_
  by_cases cz1 : (4 : Int32) < (Int32.ofNat (ndg (mag p)))
  · refine go_icT 8 (D d31_3) (by decide) rfl (XT.ii_lt_t cz1) ?_
    have hk : 4 < ndg (mag p) := ofn_ltn (by decide) (by have := ndg_b (mag p); omega) cz1
    refine go_iload_n 9 (D d31_8) rfl rfl ?_
    refine go_iconst 10 (v := 1) (D d31_9) rfl rfl ?_
    refine go_isub 11 (z := (Int32.ofNat (ndg (mag p) - 1))) (D d31_10) rfl (ofn_sub (k := 1) (by have := ndg_b (mag p); omega) (by have := ndg_b (mag p); omega)) ?_
    refine go_iload 13 (D d31_11) rfl rfl ?_
    refine go_isub 14 (z := (Int32.ofNat (ndg (mag p) - 1 - 4))) (D d31_13) rfl (ofn_sub (k := 4) (by have := ndg_b (mag p); omega) (by omega)) ?_
    refine callS0 (cells' := 1) (slots' := 10) (Wd := 0) (argsL := [(.int (Int32.ofNat (ndg (mag p) - 1 - 4)))]) (rest := []) (pay_of (a0 := a0) (c_pow10 l G (Int32.ofNat (ndg (mag p) - 1 - 4)) (ndg (mag p) - 1 - 4) h0 O0 rfl (by have := ndg_b (mag p); omega)) (wk G 211) (wk G 180)) (wk G 209) (wk G 210) (wk G 180) (wk G 211) pd27 (sz hml) all0 sf00 (D d31_14) (k_v 17 rfl ?_)
    rintro _ h2 rfl K3
    refine go_lstore 19 (ls' := #[vr a, vi (Int32.ofNat B), vi (Int32.ofNat (ndg (mag p))), .val (.long (vabs p)), .second, vi 4, .val (.long (p10 (ndg (mag p) - 1 - 4))), .second, un]) (D d31_17) rfl rfl ?_
    refine go_lload_n 20 (D d31_19) rfl rfl ?_
    refine go_lload 22 (D d31_20) rfl rfl ?_
    refine go_ldiv 23 (z := ((vabs p) / (p10 (ndg (mag p) - 1 - 4)))) (D d31_22) rfl (p10_ne (by have := ndg_b (mag p); omega)) rfl ?_
    refine go_ldcJ 26 (v := (10 : Int64)) (wk G 182) (D d31_23) rfl ?_
    refine go_lrem 27 (z := (((vabs p) / (p10 (ndg (mag p) - 1 - 4))) - (((vabs p) / (p10 (ndg (mag p) - 1 - 4))) / (10 : Int64)) * (10 : Int64))) (D d31_26) rfl (by decide) rfl ?_
    refine go_l2i 28 (z := (Int32.ofNat (mag p / 10 ^ (ndg (mag p) - 1 - 4) % 10))) (D d31_27) rfl (l_dig (by have := ndg_b (mag p); omega)) ?_
    refine go_istore 30 (ls' := #[vr a, vi (Int32.ofNat B), vi (Int32.ofNat (ndg (mag p))), .val (.long (vabs p)), .second, vi 4, .val (.long (p10 (ndg (mag p) - 1 - 4))), .second, vi (Int32.ofNat (mag p / 10 ^ (ndg (mag p) - 1 - 4) % 10))]) (D d31_28) rfl rfl ?_
    refine go_aload_n 31 (D d31_30) rfl rfl rfl ?_
    refine go_iload_n 32 (D d31_31) rfl rfl ?_
    refine go_iload 34 (D d31_32) rfl rfl ?_
    refine go_iadd 35 (z := (Int32.ofNat (B + 4))) (D d31_34) rfl (ofn_add (k := 4) (by omega)) ?_
    have K4 : Keep h0 h2 [] := ((Keep.refl h0 []).trans K3 all0)
    have S5 := (p1.keep K4)
    refine go_old (fun O6 => ?_)
    have E7 := (p1.exa.keep K4)
    refine callV0 (cells' := 1) (slots' := 10) (Wd := 0) (argsL := [(.int (Int32.ofNat (B + 4)))]) (rest := []) (pay_chr G O6 (i := B + 4) (c := (dch (mag p / 10 ^ (ndg (mag p) - 1 - 4)))) S5 rfl (by rw [p7]; omega) (gd_of (p5 4 hk)) (by decide) (by decide)) E7 (wk G 184) (wk G 185) (wk G 187) (wk G 187) (wk G 186) pd26 (sz hml) all0 sf00 (D d31_35) (k_v 38 rfl ?_)
    rintro _ _ ⟨rfl, rfl⟩ -
    refine go_bipush 40 (v := 48) (D d31_38) rfl rfl ?_
    refine go_iload 42 (D d31_40) rfl rfl ?_
    refine go_iadd 43 (z := (dch (mag p / 10 ^ (ndg (mag p) - 1 - 4)))) (D d31_42) rfl (dch_add _) ?_
    refine go_i2c 44 (z := (dch (mag p / 10 ^ (ndg (mag p) - 1 - 4)))) (D d31_43) rfl (i2c_c8 (dch_c8 _)) ?_
    refine go_icF 47 (D d31_44) rfl (XT.ii_ne_f rfl) ?_
    refine go_iconst 48 (v := 1) (D d31_47) rfl rfl ?_
    refine go_goto 52 (D d31_48) (by decide) rfl ?_
    refine go_ireturn hret hlk rfl (by simp) (D d31_52) (by decide) (by decide) ⟨_, rfl, rfl⟩ K4
  · refine go_icF 6 (D d31_3) rfl (XT.ii_lt_f cz1) ?_
    refine go_iconst 7 (v := 1) (D d31_6) rfl rfl ?_
    refine go_ireturn hret hlk rfl (by simp) (D d31_7) (by decide) (by decide) ⟨_, rfl, rfl⟩ (Keep.refl h0 [])
def Q_digok5 (Z : State) (a : Addr) (b u : Int32) (v : Int64) (p : Int32) (B : Nat) (cs : List Int32) (h0 : Heap) (xv : Value) (h : Heap) : Prop := (.int 1) = xv
theorem c_digok5 (G : GH Z a0) (a : Addr) (b u : Int32) (v : Int64) (p : Int32) (B : Nat) (cs : List Int32) (h0 : Heap) (O0 : Old Z Z.heap.size h0) (p1 : Str Z h0 a cs) (p2 : b = Int32.ofNat B) (p3 : u = Int32.ofNat (ndg (mag p))) (p4 : v = vabs p) (p5 : dgt cs B p) (p6 : B ≤ 4) (p7 : cs.length = B + ndg (mag p)) : Con false [] l Z (⟨"com/example/onceward/onceward/HostPortToStringPinLaw", "digitOk", "(Ljava/lang/String;IIJI)Z"⟩ : MethodName) method_5_code 9 (some .boolean) [] (rm4 4 1 10 53) #[(.ref a), (.int b), (.int u), (.long v), (.int 5)] h0 [] (rvl (Q_digok5 Z a b u v p B cs h0)) := by
  refine conN G (plainFor_of_name pn7) O0 (fun m => ef20 m a b u v (5 : Int32)) ?_
  intro _ _ _ m_ _ _ _ D hml hret hlk hnm
  subst p2 p3 p4
  refine go_iload 2 (D d31_0) rfl rfl ?_
  refine go_iload_n 3 (D d31_2) rfl rfl ?_
  by_cases cz1 : (5 : Int32) < (Int32.ofNat (ndg (mag p)))
  · refine go_icT 8 (D d31_3) (by decide) rfl (XT.ii_lt_t cz1) ?_
    have hk : 5 < ndg (mag p) := ofn_ltn (by decide) (by have := ndg_b (mag p); omega) cz1
    refine go_iload_n 9 (D d31_8) rfl rfl ?_
    refine go_iconst 10 (v := 1) (D d31_9) rfl rfl ?_
    refine go_isub 11 (z := (Int32.ofNat (ndg (mag p) - 1))) (D d31_10) rfl (ofn_sub (k := 1) (by have := ndg_b (mag p); omega) (by have := ndg_b (mag p); omega)) ?_
    refine go_iload 13 (D d31_11) rfl rfl ?_
    refine go_isub 14 (z := (Int32.ofNat (ndg (mag p) - 1 - 5))) (D d31_13) rfl (ofn_sub (k := 5) (by have := ndg_b (mag p); omega) (by omega)) ?_
    refine callS0 (cells' := 1) (slots' := 10) (Wd := 0) (argsL := [(.int (Int32.ofNat (ndg (mag p) - 1 - 5)))]) (rest := []) (pay_of (a0 := a0) (c_pow10 l G (Int32.ofNat (ndg (mag p) - 1 - 5)) (ndg (mag p) - 1 - 5) h0 O0 rfl (by have := ndg_b (mag p); omega)) (wk G 211) (wk G 180)) (wk G 209) (wk G 210) (wk G 180) (wk G 211) pd27 (sz hml) all0 sf00 (D d31_14) (k_v 17 rfl ?_)
    rintro _ h2 rfl K3
    refine go_lstore 19 (ls' := #[vr a, vi (Int32.ofNat B), vi (Int32.ofNat (ndg (mag p))), .val (.long (vabs p)), .second, vi 5, .val (.long (p10 (ndg (mag p) - 1 - 5))), .second, un]) (D d31_17) rfl rfl ?_
    refine go_lload_n 20 (D d31_19) rfl rfl ?_
    refine go_lload 22 (D d31_20) rfl rfl ?_
    refine go_ldiv 23 (z := ((vabs p) / (p10 (ndg (mag p) - 1 - 5)))) (D d31_22) rfl (p10_ne (by have := ndg_b (mag p); omega)) rfl ?_
    refine go_ldcJ 26 (v := (10 : Int64)) (wk G 182) (D d31_23) rfl ?_
    refine go_lrem 27 (z := (((vabs p) / (p10 (ndg (mag p) - 1 - 5))) - (((vabs p) / (p10 (ndg (mag p) - 1 - 5))) / (10 : Int64)) * (10 : Int64))) (D d31_26) rfl (by decide) rfl ?_
    refine go_l2i 28 (z := (Int32.ofNat (mag p / 10 ^ (ndg (mag p) - 1 - 5) % 10))) (D d31_27) rfl (l_dig (by have := ndg_b (mag p); omega)) ?_
    refine go_istore 30 (ls' := #[vr a, vi (Int32.ofNat B), vi (Int32.ofNat (ndg (mag p))), .val (.long (vabs p)), .second, vi 5, .val (.long (p10 (ndg (mag p) - 1 - 5))), .second, vi (Int32.ofNat (mag p / 10 ^ (ndg (mag p) - 1 - 5) % 10))]) (D d31_28) rfl rfl ?_
    refine go_aload_n 31 (D d31_30) rfl rfl rfl ?_
    refine go_iload_n 32 (D d31_31) rfl rfl ?_
    refine go_iload 34 (D d31_32) rfl rfl ?_
    refine go_iadd 35 (z := (Int32.ofNat (B + 5))) (D d31_34) rfl (ofn_add (k := 5) (by omega)) ?_
    have K4 : Keep h0 h2 [] := ((Keep.refl h0 []).trans K3 all0)
    have S5 := (p1.keep K4)
    refine go_old (fun O6 => ?_)
    have E7 := (p1.exa.keep K4)
    refine callV0 (cells' := 1) (slots' := 10) (Wd := 0) (argsL := [(.int (Int32.ofNat (B + 5)))]) (rest := []) (pay_chr G O6 (i := B + 5) (c := (dch (mag p / 10 ^ (ndg (mag p) - 1 - 5)))) S5 rfl (by rw [p7]; omega) (gd_of (p5 5 hk)) (by decide) (by decide)) E7 (wk G 184) (wk G 185) (wk G 187) (wk G 187) (wk G 186) pd26 (sz hml) all0 sf00 (D d31_35) (k_v 38 rfl ?_)
    rintro _ _ ⟨rfl, rfl⟩ -
    refine go_bipush 40 (v := 48) (D d31_38) rfl rfl ?_
    refine go_iload 42 (D d31_40) rfl rfl ?_
    refine go_iadd 43 (z := (dch (mag p / 10 ^ (ndg (mag p) - 1 - 5)))) (D d31_42) rfl (dch_add _) ?_
    refine go_i2c 44 (z := (dch (mag p / 10 ^ (ndg (mag p) - 1 - 5)))) (D d31_43) rfl (i2c_c8 (dch_c8 _)) ?_
    refine go_icF 47 (D d31_44) rfl (XT.ii_ne_f rfl) ?_
    refine go_iconst 48 (v := 1) (D d31_47) rfl rfl ?_
    refine go_goto 52 (D d31_48) (by decide) rfl ?_
    refine go_ireturn hret hlk rfl (by simp) (D d31_52) (by decide) (by decide) ⟨_, rfl, rfl⟩ K4
  · refine go_icF 6 (D d31_3) rfl (XT.ii_lt_f cz1) ?_
    refine go_iconst 7 (v := 1) (D d31_6) rfl rfl ?_
    refine go_ireturn hret hlk rfl (by simp) (D d31_7) (by decide) (by decide) ⟨_, rfl, rfl⟩ (Keep.refl h0 [])
def Q_digok6 (Z : State) (a : Addr) (b u : Int32) (v : Int64) (p : Int32) (B : Nat) (cs : List Int32) (h0 : Heap) (xv : Value) (h : Heap) : Prop := (.int 1) = xv
theorem c_digok6 (G : GH Z a0) (a : Addr) (b u : Int32) (v : Int64) (p : Int32) (B : Nat) (cs : List Int32) (h0 : Heap) (O0 : Old Z Z.heap.size h0) (p1 : Str Z h0 a cs) (p2 : b = Int32.ofNat B) (p3 : u = Int32.ofNat (ndg (mag p))) (p4 : v = vabs p) (p5 : dgt cs B p) (p6 : B ≤ 4) (p7 : cs.length = B + ndg (mag p)) : Con false [] l Z (⟨"com/example/onceward/onceward/HostPortToStringPinLaw", "digitOk", "(Ljava/lang/String;IIJI)Z"⟩ : MethodName) method_5_code 9 (some .boolean) [] (rm4 4 1 10 53) #[(.ref a), (.int b), (.int u), (.long v), (.int 6)] h0 [] (rvl (Q_digok6 Z a b u v p B cs h0)) := by
  refine conN G (plainFor_of_name pn7) O0 (fun m => ef20 m a b u v (6 : Int32)) ?_
  intro _ _ _ m_ _ _ _ D hml hret hlk hnm
  subst p2 p3 p4
  refine go_iload 2 (D d31_0) rfl rfl ?_
  refine go_iload_n 3 (D d31_2) rfl rfl ?_
  by_cases cz1 : (6 : Int32) < (Int32.ofNat (ndg (mag p)))
  · refine go_icT 8 (D d31_3) (by decide) rfl (XT.ii_lt_t cz1) ?_
    have hk : 6 < ndg (mag p) := ofn_ltn (by decide) (by have := ndg_b (mag p); omega) cz1
    refine go_iload_n 9 (D d31_8) rfl rfl ?_
    refine go_iconst 10 (v := 1) (D d31_9) rfl rfl ?_
    refine go_isub 11 (z := (Int32.ofNat (ndg (mag p) - 1))) (D d31_10) rfl (ofn_sub (k := 1) (by have := ndg_b (mag p); omega) (by have := ndg_b (mag p); omega)) ?_
    refine go_iload 13 (D d31_11) rfl rfl ?_
    refine go_isub 14 (z := (Int32.ofNat (ndg (mag p) - 1 - 6))) (D d31_13) rfl (ofn_sub (k := 6) (by have := ndg_b (mag p); omega) (by omega)) ?_
    refine callS0 (cells' := 1) (slots' := 10) (Wd := 0) (argsL := [(.int (Int32.ofNat (ndg (mag p) - 1 - 6)))]) (rest := []) (pay_of (a0 := a0) (c_pow10 l G (Int32.ofNat (ndg (mag p) - 1 - 6)) (ndg (mag p) - 1 - 6) h0 O0 rfl (by have := ndg_b (mag p); omega)) (wk G 211) (wk G 180)) (wk G 209) (wk G 210) (wk G 180) (wk G 211) pd27 (sz hml) all0 sf00 (D d31_14) (k_v 17 rfl ?_)
    rintro _ h2 rfl K3
    refine go_lstore 19 (ls' := #[vr a, vi (Int32.ofNat B), vi (Int32.ofNat (ndg (mag p))), .val (.long (vabs p)), .second, vi 6, .val (.long (p10 (ndg (mag p) - 1 - 6))), .second, un]) (D d31_17) rfl rfl ?_
    refine go_lload_n 20 (D d31_19) rfl rfl ?_
    refine go_lload 22 (D d31_20) rfl rfl ?_
    refine go_ldiv 23 (z := ((vabs p) / (p10 (ndg (mag p) - 1 - 6)))) (D d31_22) rfl (p10_ne (by have := ndg_b (mag p); omega)) rfl ?_
    refine go_ldcJ 26 (v := (10 : Int64)) (wk G 182) (D d31_23) rfl ?_
    refine go_lrem 27 (z := (((vabs p) / (p10 (ndg (mag p) - 1 - 6))) - (((vabs p) / (p10 (ndg (mag p) - 1 - 6))) / (10 : Int64)) * (10 : Int64))) (D d31_26) rfl (by decide) rfl ?_
    refine go_l2i 28 (z := (Int32.ofNat (mag p / 10 ^ (ndg (mag p) - 1 - 6) % 10))) (D d31_27) rfl (l_dig (by have := ndg_b (mag p); omega)) ?_
    refine go_istore 30 (ls' := #[vr a, vi (Int32.ofNat B), vi (Int32.ofNat (ndg (mag p))), .val (.long (vabs p)), .second, vi 6, .val (.long (p10 (ndg (mag p) - 1 - 6))), .second, vi (Int32.ofNat (mag p / 10 ^ (ndg (mag p) - 1 - 6) % 10))]) (D d31_28) rfl rfl ?_
    refine go_aload_n 31 (D d31_30) rfl rfl rfl ?_
    refine go_iload_n 32 (D d31_31) rfl rfl ?_
    refine go_iload 34 (D d31_32) rfl rfl ?_
    refine go_iadd 35 (z := (Int32.ofNat (B + 6))) (D d31_34) rfl (ofn_add (k := 6) (by omega)) ?_
    have K4 : Keep h0 h2 [] := ((Keep.refl h0 []).trans K3 all0)
    have S5 := (p1.keep K4)
    refine go_old (fun O6 => ?_)
    have E7 := (p1.exa.keep K4)
    refine callV0 (cells' := 1) (slots' := 10) (Wd := 0) (argsL := [(.int (Int32.ofNat (B + 6)))]) (rest := []) (pay_chr G O6 (i := B + 6) (c := (dch (mag p / 10 ^ (ndg (mag p) - 1 - 6)))) S5 rfl (by rw [p7]; omega) (gd_of (p5 6 hk)) (by decide) (by decide)) E7 (wk G 184) (wk G 185) (wk G 187) (wk G 187) (wk G 186) pd26 (sz hml) all0 sf00 (D d31_35) (k_v 38 rfl ?_)
    rintro _ _ ⟨rfl, rfl⟩ -
    refine go_bipush 40 (v := 48) (D d31_38) rfl rfl ?_
    refine go_iload 42 (D d31_40) rfl rfl ?_
    refine go_iadd 43 (z := (dch (mag p / 10 ^ (ndg (mag p) - 1 - 6)))) (D d31_42) rfl (dch_add _) ?_
    refine go_i2c 44 (z := (dch (mag p / 10 ^ (ndg (mag p) - 1 - 6)))) (D d31_43) rfl (i2c_c8 (dch_c8 _)) ?_
    refine go_icF 47 (D d31_44) rfl (XT.ii_ne_f rfl) ?_
    refine go_iconst 48 (v := 1) (D d31_47) rfl rfl ?_
    refine go_goto 52 (D d31_48) (by decide) rfl ?_
    refine go_ireturn hret hlk rfl (by simp) (D d31_52) (by decide) (by decide) ⟨_, rfl, rfl⟩ K4
  · refine go_icF 6 (D d31_3) rfl (XT.ii_lt_f cz1) ?_
    refine go_iconst 7 (v := 1) (D d31_6) rfl rfl ?_
    refine go_ireturn hret hlk rfl (by simp) (D d31_7) (by decide) (by decide) ⟨_, rfl, rfl⟩ (Keep.refl h0 [])
def Q_digok7 (Z : State) (a : Addr) (b u : Int32) (v : Int64) (p : Int32) (B : Nat) (cs : List Int32) (h0 : Heap) (xv : Value) (h : Heap) : Prop := (.int 1) = xv
theorem c_digok7 (G : GH Z a0) (a : Addr) (b u : Int32) (v : Int64) (p : Int32) (B : Nat) (cs : List Int32) (h0 : Heap) (O0 : Old Z Z.heap.size h0) (p1 : Str Z h0 a cs) (p2 : b = Int32.ofNat B) (p3 : u = Int32.ofNat (ndg (mag p))) (p4 : v = vabs p) (p5 : dgt cs B p) (p6 : B ≤ 4) (p7 : cs.length = B + ndg (mag p)) : Con false [] l Z (⟨"com/example/onceward/onceward/HostPortToStringPinLaw", "digitOk", "(Ljava/lang/String;IIJI)Z"⟩ : MethodName) method_5_code 9 (some .boolean) [] (rm4 4 1 10 53) #[(.ref a), (.int b), (.int u), (.long v), (.int 7)] h0 [] (rvl (Q_digok7 Z a b u v p B cs h0)) := by
  refine conN G (plainFor_of_name pn7) O0 (fun m => ef20 m a b u v (7 : Int32)) ?_
  intro _ _ _ m_ _ _ _ D hml hret hlk hnm
  subst p2 p3 p4
  refine go_iload 2 (D d31_0) rfl rfl ?_
  refine go_iload_n 3 (D d31_2) rfl rfl ?_
  by_cases cz1 : (7 : Int32) < (Int32.ofNat (ndg (mag p)))
  · refine go_icT 8 (D d31_3) (by decide) rfl (XT.ii_lt_t cz1) ?_
    have hk : 7 < ndg (mag p) := ofn_ltn (by decide) (by have := ndg_b (mag p); omega) cz1
    refine go_iload_n 9 (D d31_8) rfl rfl ?_
    refine go_iconst 10 (v := 1) (D d31_9) rfl rfl ?_
    refine go_isub 11 (z := (Int32.ofNat (ndg (mag p) - 1))) (D d31_10) rfl (ofn_sub (k := 1) (by have := ndg_b (mag p); omega) (by have := ndg_b (mag p); omega)) ?_
    refine go_iload 13 (D d31_11) rfl rfl ?_
    refine go_isub 14 (z := (Int32.ofNat (ndg (mag p) - 1 - 7))) (D d31_13) rfl (ofn_sub (k := 7) (by have := ndg_b (mag p); omega) (by omega)) ?_
    refine callS0 (cells' := 1) (slots' := 10) (Wd := 0) (argsL := [(.int (Int32.ofNat (ndg (mag p) - 1 - 7)))]) (rest := []) (pay_of (a0 := a0) (c_pow10 l G (Int32.ofNat (ndg (mag p) - 1 - 7)) (ndg (mag p) - 1 - 7) h0 O0 rfl (by have := ndg_b (mag p); omega)) (wk G 211) (wk G 180)) (wk G 209) (wk G 210) (wk G 180) (wk G 211) pd27 (sz hml) all0 sf00 (D d31_14) (k_v 17 rfl ?_)
    rintro _ h2 rfl K3
    refine go_lstore 19 (ls' := #[vr a, vi (Int32.ofNat B), vi (Int32.ofNat (ndg (mag p))), .val (.long (vabs p)), .second, vi 7, .val (.long (p10 (ndg (mag p) - 1 - 7))), .second, un]) (D d31_17) rfl rfl ?_
    refine go_lload_n 20 (D d31_19) rfl rfl ?_
    refine go_lload 22 (D d31_20) rfl rfl ?_
    refine go_ldiv 23 (z := ((vabs p) / (p10 (ndg (mag p) - 1 - 7)))) (D d31_22) rfl (p10_ne (by have := ndg_b (mag p); omega)) rfl ?_
    refine go_ldcJ 26 (v := (10 : Int64)) (wk G 182) (D d31_23) rfl ?_
    refine go_lrem 27 (z := (((vabs p) / (p10 (ndg (mag p) - 1 - 7))) - (((vabs p) / (p10 (ndg (mag p) - 1 - 7))) / (10 : Int64)) * (10 : Int64))) (D d31_26) rfl (by decide) rfl ?_
    refine go_l2i 28 (z := (Int32.ofNat (mag p / 10 ^ (ndg (mag p) - 1 - 7) % 10))) (D d31_27) rfl (l_dig (by have := ndg_b (mag p); omega)) ?_
    refine go_istore 30 (ls' := #[vr a, vi (Int32.ofNat B), vi (Int32.ofNat (ndg (mag p))), .val (.long (vabs p)), .second, vi 7, .val (.long (p10 (ndg (mag p) - 1 - 7))), .second, vi (Int32.ofNat (mag p / 10 ^ (ndg (mag p) - 1 - 7) % 10))]) (D d31_28) rfl rfl ?_
    refine go_aload_n 31 (D d31_30) rfl rfl rfl ?_
    refine go_iload_n 32 (D d31_31) rfl rfl ?_
    refine go_iload 34 (D d31_32) rfl rfl ?_
    refine go_iadd 35 (z := (Int32.ofNat (B + 7))) (D d31_34) rfl (ofn_add (k := 7) (by omega)) ?_
    have K4 : Keep h0 h2 [] := ((Keep.refl h0 []).trans K3 all0)
    have S5 := (p1.keep K4)
    refine go_old (fun O6 => ?_)
    have E7 := (p1.exa.keep K4)
    refine callV0 (cells' := 1) (slots' := 10) (Wd := 0) (argsL := [(.int (Int32.ofNat (B + 7)))]) (rest := []) (pay_chr G O6 (i := B + 7) (c := (dch (mag p / 10 ^ (ndg (mag p) - 1 - 7)))) S5 rfl (by rw [p7]; omega) (gd_of (p5 7 hk)) (by decide) (by decide)) E7 (wk G 184) (wk G 185) (wk G 187) (wk G 187) (wk G 186) pd26 (sz hml) all0 sf00 (D d31_35) (k_v 38 rfl ?_)
    rintro _ _ ⟨rfl, rfl⟩ -
    refine go_bipush 40 (v := 48) (D d31_38) rfl rfl ?_
    refine go_iload 42 (D d31_40) rfl rfl ?_
    refine go_iadd 43 (z := (dch (mag p / 10 ^ (ndg (mag p) - 1 - 7)))) (D d31_42) rfl (dch_add _) ?_
    refine go_i2c 44 (z := (dch (mag p / 10 ^ (ndg (mag p) - 1 - 7)))) (D d31_43) rfl (i2c_c8 (dch_c8 _)) ?_
    refine go_icF 47 (D d31_44) rfl (XT.ii_ne_f rfl) ?_
    refine go_iconst 48 (v := 1) (D d31_47) rfl rfl ?_
    refine go_goto 52 (D d31_48) (by decide) rfl ?_
    refine go_ireturn hret hlk rfl (by simp) (D d31_52) (by decide) (by decide) ⟨_, rfl, rfl⟩ K4
  · refine go_icF 6 (D d31_3) rfl (XT.ii_lt_f cz1) ?_
    refine go_iconst 7 (v := 1) (D d31_6) rfl rfl ?_
    refine go_ireturn hret hlk rfl (by simp) (D d31_7) (by decide) (by decide) ⟨_, rfl, rfl⟩ (Keep.refl h0 [])
def Q_digok8 (Z : State) (a : Addr) (b u : Int32) (v : Int64) (p : Int32) (B : Nat) (cs : List Int32) (h0 : Heap) (xv : Value) (h : Heap) : Prop := (.int 1) = xv
theorem c_digok8 (G : GH Z a0) (a : Addr) (b u : Int32) (v : Int64) (p : Int32) (B : Nat) (cs : List Int32) (h0 : Heap) (O0 : Old Z Z.heap.size h0) (p1 : Str Z h0 a cs) (p2 : b = Int32.ofNat B) (p3 : u = Int32.ofNat (ndg (mag p))) (p4 : v = vabs p) (p5 : dgt cs B p) (p6 : B ≤ 4) (p7 : cs.length = B + ndg (mag p)) : Con false [] l Z (⟨"com/example/onceward/onceward/HostPortToStringPinLaw", "digitOk", "(Ljava/lang/String;IIJI)Z"⟩ : MethodName) method_5_code 9 (some .boolean) [] (rm4 4 1 10 53) #[(.ref a), (.int b), (.int u), (.long v), (.int 8)] h0 [] (rvl (Q_digok8 Z a b u v p B cs h0)) := by
  refine conN G (plainFor_of_name pn7) O0 (fun m => ef20 m a b u v (8 : Int32)) ?_
  intro _ _ _ m_ _ _ _ D hml hret hlk hnm
  subst p2 p3 p4
  refine go_iload 2 (D d31_0) rfl rfl ?_
  refine go_iload_n 3 (D d31_2) rfl rfl ?_
  by_cases cz1 : (8 : Int32) < (Int32.ofNat (ndg (mag p)))
  · refine go_icT 8 (D d31_3) (by decide) rfl (XT.ii_lt_t cz1) ?_
    have hk : 8 < ndg (mag p) := ofn_ltn (by decide) (by have := ndg_b (mag p); omega) cz1
    refine go_iload_n 9 (D d31_8) rfl rfl ?_
    refine go_iconst 10 (v := 1) (D d31_9) rfl rfl ?_
    refine go_isub 11 (z := (Int32.ofNat (ndg (mag p) - 1))) (D d31_10) rfl (ofn_sub (k := 1) (by have := ndg_b (mag p); omega) (by have := ndg_b (mag p); omega)) ?_
    refine go_iload 13 (D d31_11) rfl rfl ?_
    refine go_isub 14 (z := (Int32.ofNat (ndg (mag p) - 1 - 8))) (D d31_13) rfl (ofn_sub (k := 8) (by have := ndg_b (mag p); omega) (by omega)) ?_
    refine callS0 (cells' := 1) (slots' := 10) (Wd := 0) (argsL := [(.int (Int32.ofNat (ndg (mag p) - 1 - 8)))]) (rest := []) (pay_of (a0 := a0) (c_pow10 l G (Int32.ofNat (ndg (mag p) - 1 - 8)) (ndg (mag p) - 1 - 8) h0 O0 rfl (by have := ndg_b (mag p); omega)) (wk G 211) (wk G 180)) (wk G 209) (wk G 210) (wk G 180) (wk G 211) pd27 (sz hml) all0 sf00 (D d31_14) (k_v 17 rfl ?_)
    rintro _ h2 rfl K3
    refine go_lstore 19 (ls' := #[vr a, vi (Int32.ofNat B), vi (Int32.ofNat (ndg (mag p))), .val (.long (vabs p)), .second, vi 8, .val (.long (p10 (ndg (mag p) - 1 - 8))), .second, un]) (D d31_17) rfl rfl ?_
    refine go_lload_n 20 (D d31_19) rfl rfl ?_
    refine go_lload 22 (D d31_20) rfl rfl ?_
    refine go_ldiv 23 (z := ((vabs p) / (p10 (ndg (mag p) - 1 - 8)))) (D d31_22) rfl (p10_ne (by have := ndg_b (mag p); omega)) rfl ?_
    refine go_ldcJ 26 (v := (10 : Int64)) (wk G 182) (D d31_23) rfl ?_
    refine go_lrem 27 (z := (((vabs p) / (p10 (ndg (mag p) - 1 - 8))) - (((vabs p) / (p10 (ndg (mag p) - 1 - 8))) / (10 : Int64)) * (10 : Int64))) (D d31_26) rfl (by decide) rfl ?_
    refine go_l2i 28 (z := (Int32.ofNat (mag p / 10 ^ (ndg (mag p) - 1 - 8) % 10))) (D d31_27) rfl (l_dig (by have := ndg_b (mag p); omega)) ?_
    refine go_istore 30 (ls' := #[vr a, vi (Int32.ofNat B), vi (Int32.ofNat (ndg (mag p))), .val (.long (vabs p)), .second, vi 8, .val (.long (p10 (ndg (mag p) - 1 - 8))), .second, vi (Int32.ofNat (mag p / 10 ^ (ndg (mag p) - 1 - 8) % 10))]) (D d31_28) rfl rfl ?_
    refine go_aload_n 31 (D d31_30) rfl rfl rfl ?_
    refine go_iload_n 32 (D d31_31) rfl rfl ?_
    refine go_iload 34 (D d31_32) rfl rfl ?_
    refine go_iadd 35 (z := (Int32.ofNat (B + 8))) (D d31_34) rfl (ofn_add (k := 8) (by omega)) ?_
    have K4 : Keep h0 h2 [] := ((Keep.refl h0 []).trans K3 all0)
    have S5 := (p1.keep K4)
    refine go_old (fun O6 => ?_)
    have E7 := (p1.exa.keep K4)
    refine callV0 (cells' := 1) (slots' := 10) (Wd := 0) (argsL := [(.int (Int32.ofNat (B + 8)))]) (rest := []) (pay_chr G O6 (i := B + 8) (c := (dch (mag p / 10 ^ (ndg (mag p) - 1 - 8)))) S5 rfl (by rw [p7]; omega) (gd_of (p5 8 hk)) (by decide) (by decide)) E7 (wk G 184) (wk G 185) (wk G 187) (wk G 187) (wk G 186) pd26 (sz hml) all0 sf00 (D d31_35) (k_v 38 rfl ?_)
    rintro _ _ ⟨rfl, rfl⟩ -
    refine go_bipush 40 (v := 48) (D d31_38) rfl rfl ?_
    refine go_iload 42 (D d31_40) rfl rfl ?_
    refine go_iadd 43 (z := (dch (mag p / 10 ^ (ndg (mag p) - 1 - 8)))) (D d31_42) rfl (dch_add _) ?_
    refine go_i2c 44 (z := (dch (mag p / 10 ^ (ndg (mag p) - 1 - 8)))) (D d31_43) rfl (i2c_c8 (dch_c8 _)) ?_
    refine go_icF 47 (D d31_44) rfl (XT.ii_ne_f rfl) ?_
    refine go_iconst 48 (v := 1) (D d31_47) rfl rfl ?_
    refine go_goto 52 (D d31_48) (by decide) rfl ?_
    refine go_ireturn hret hlk rfl (by simp) (D d31_52) (by decide) (by decide) ⟨_, rfl, rfl⟩ K4
  · refine go_icF 6 (D d31_3) rfl (XT.ii_lt_f cz1) ?_
    refine go_iconst 7 (v := 1) (D d31_6) rfl rfl ?_
    refine go_ireturn hret hlk rfl (by simp) (D d31_7) (by decide) (by decide) ⟨_, rfl, rfl⟩ (Keep.refl h0 [])
def Q_digok9 (Z : State) (a : Addr) (b u : Int32) (v : Int64) (p : Int32) (B : Nat) (cs : List Int32) (h0 : Heap) (xv : Value) (h : Heap) : Prop := (.int 1) = xv
theorem c_digok9 (G : GH Z a0) (a : Addr) (b u : Int32) (v : Int64) (p : Int32) (B : Nat) (cs : List Int32) (h0 : Heap) (O0 : Old Z Z.heap.size h0) (p1 : Str Z h0 a cs) (p2 : b = Int32.ofNat B) (p3 : u = Int32.ofNat (ndg (mag p))) (p4 : v = vabs p) (p5 : dgt cs B p) (p6 : B ≤ 4) (p7 : cs.length = B + ndg (mag p)) : Con false [] l Z (⟨"com/example/onceward/onceward/HostPortToStringPinLaw", "digitOk", "(Ljava/lang/String;IIJI)Z"⟩ : MethodName) method_5_code 9 (some .boolean) [] (rm4 4 1 10 53) #[(.ref a), (.int b), (.int u), (.long v), (.int 9)] h0 [] (rvl (Q_digok9 Z a b u v p B cs h0)) := by
  refine conN G (plainFor_of_name pn7) O0 (fun m => ef20 m a b u v (9 : Int32)) ?_
  intro _ _ _ m_ _ _ _ D hml hret hlk hnm
  subst p2 p3 p4
  refine go_iload 2 (D d31_0) rfl rfl ?_
  refine go_iload_n 3 (D d31_2) rfl rfl ?_
  by_cases cz1 : (9 : Int32) < (Int32.ofNat (ndg (mag p)))
  · refine go_icT 8 (D d31_3) (by decide) rfl (XT.ii_lt_t cz1) ?_
    have hk : 9 < ndg (mag p) := ofn_ltn (by decide) (by have := ndg_b (mag p); omega) cz1
    refine go_iload_n 9 (D d31_8) rfl rfl ?_
    refine go_iconst 10 (v := 1) (D d31_9) rfl rfl ?_
    refine go_isub 11 (z := (Int32.ofNat (ndg (mag p) - 1))) (D d31_10) rfl (ofn_sub (k := 1) (by have := ndg_b (mag p); omega) (by have := ndg_b (mag p); omega)) ?_
    refine go_iload 13 (D d31_11) rfl rfl ?_
    refine go_isub 14 (z := (Int32.ofNat (ndg (mag p) - 1 - 9))) (D d31_13) rfl (ofn_sub (k := 9) (by have := ndg_b (mag p); omega) (by omega)) ?_
    refine callS0 (cells' := 1) (slots' := 10) (Wd := 0) (argsL := [(.int (Int32.ofNat (ndg (mag p) - 1 - 9)))]) (rest := []) (pay_of (a0 := a0) (c_pow10 l G (Int32.ofNat (ndg (mag p) - 1 - 9)) (ndg (mag p) - 1 - 9) h0 O0 rfl (by have := ndg_b (mag p); omega)) (wk G 211) (wk G 180)) (wk G 209) (wk G 210) (wk G 180) (wk G 211) pd27 (sz hml) all0 sf00 (D d31_14) (k_v 17 rfl ?_)
    rintro _ h2 rfl K3
    refine go_lstore 19 (ls' := #[vr a, vi (Int32.ofNat B), vi (Int32.ofNat (ndg (mag p))), .val (.long (vabs p)), .second, vi 9, .val (.long (p10 (ndg (mag p) - 1 - 9))), .second, un]) (D d31_17) rfl rfl ?_
    refine go_lload_n 20 (D d31_19) rfl rfl ?_
    refine go_lload 22 (D d31_20) rfl rfl ?_
    refine go_ldiv 23 (z := ((vabs p) / (p10 (ndg (mag p) - 1 - 9)))) (D d31_22) rfl (p10_ne (by have := ndg_b (mag p); omega)) rfl ?_
    refine go_ldcJ 26 (v := (10 : Int64)) (wk G 182) (D d31_23) rfl ?_
    refine go_lrem 27 (z := (((vabs p) / (p10 (ndg (mag p) - 1 - 9))) - (((vabs p) / (p10 (ndg (mag p) - 1 - 9))) / (10 : Int64)) * (10 : Int64))) (D d31_26) rfl (by decide) rfl ?_
    refine go_l2i 28 (z := (Int32.ofNat (mag p / 10 ^ (ndg (mag p) - 1 - 9) % 10))) (D d31_27) rfl (l_dig (by have := ndg_b (mag p); omega)) ?_
    refine go_istore 30 (ls' := #[vr a, vi (Int32.ofNat B), vi (Int32.ofNat (ndg (mag p))), .val (.long (vabs p)), .second, vi 9, .val (.long (p10 (ndg (mag p) - 1 - 9))), .second, vi (Int32.ofNat (mag p / 10 ^ (ndg (mag p) - 1 - 9) % 10))]) (D d31_28) rfl rfl ?_
    refine go_aload_n 31 (D d31_30) rfl rfl rfl ?_
    refine go_iload_n 32 (D d31_31) rfl rfl ?_
    refine go_iload 34 (D d31_32) rfl rfl ?_
    refine go_iadd 35 (z := (Int32.ofNat (B + 9))) (D d31_34) rfl (ofn_add (k := 9) (by omega)) ?_
    have K4 : Keep h0 h2 [] := ((Keep.refl h0 []).trans K3 all0)
    have S5 := (p1.keep K4)
    refine go_old (fun O6 => ?_)
    have E7 := (p1.exa.keep K4)
    refine callV0 (cells' := 1) (slots' := 10) (Wd := 0) (argsL := [(.int (Int32.ofNat (B + 9)))]) (rest := []) (pay_chr G O6 (i := B + 9) (c := (dch (mag p / 10 ^ (ndg (mag p) - 1 - 9)))) S5 rfl (by rw [p7]; omega) (gd_of (p5 9 hk)) (by decide) (by decide)) E7 (wk G 184) (wk G 185) (wk G 187) (wk G 187) (wk G 186) pd26 (sz hml) all0 sf00 (D d31_35) (k_v 38 rfl ?_)
    rintro _ _ ⟨rfl, rfl⟩ -
    refine go_bipush 40 (v := 48) (D d31_38) rfl rfl ?_
    refine go_iload 42 (D d31_40) rfl rfl ?_
    refine go_iadd 43 (z := (dch (mag p / 10 ^ (ndg (mag p) - 1 - 9)))) (D d31_42) rfl (dch_add _) ?_
    refine go_i2c 44 (z := (dch (mag p / 10 ^ (ndg (mag p) - 1 - 9)))) (D d31_43) rfl (i2c_c8 (dch_c8 _)) ?_
    refine go_icF 47 (D d31_44) rfl (XT.ii_ne_f rfl) ?_
    refine go_iconst 48 (v := 1) (D d31_47) rfl rfl ?_
    refine go_goto 52 (D d31_48) (by decide) rfl ?_
    refine go_ireturn hret hlk rfl (by simp) (D d31_52) (by decide) (by decide) ⟨_, rfl, rfl⟩ K4
  · refine go_icF 6 (D d31_3) rfl (XT.ii_lt_f cz1) ?_
    refine go_iconst 7 (v := 1) (D d31_6) rfl rfl ?_
    refine go_ireturn hret hlk rfl (by simp) (D d31_7) (by decide) (by decide) ⟨_, rfl, rfl⟩ (Keep.refl h0 [])
def Q_hpts1 (Z : State) (a s : Addr) (p c0 : Int32) (h0 : Heap) (xv : Value) (h : Heap) : Prop := ∃ (r : Addr), (.ref r) = xv ∧ Str Z h r ([c0, (58 : Int32)] ++ rep p)
def Q_sbapp1_1 (Z : State) (a b t : Addr) (k : ClassId) (c0 e0 e1 e2 e3 e4 e5 e6 e7 e8 e9 e10 e11 e12 e13 e14 e15 : Int32) (h0 : Heap) (xv : Value) (h : Heap) : Prop := (.ref a) = xv ∧ Fld Z h a "java/lang/AbstractStringBuilder" "value" "[B" (.ref t) ∧ Fld Z h a "java/lang/AbstractStringBuilder" "coder" "B" (.int 0) ∧ Fld Z h a "java/lang/AbstractStringBuilder" "count" "I" (.int 2) ∧ Arv Z h t k (.byte) (16 : Int32) [(.int e0), (.int (c0).toInt8.toInt32), (.int e2), (.int e3), (.int e4), (.int e5), (.int e6), (.int e7), (.int e8), (.int e9), (.int e10), (.int e11), (.int e12), (.int e13), (.int e14), (.int e15)] (.int 0)
def Q_asbapp1_1 (Z : State) (a b t : Addr) (k : ClassId) (c0 e0 e1 e2 e3 e4 e5 e6 e7 e8 e9 e10 e11 e12 e13 e14 e15 : Int32) (h0 : Heap) (xv : Value) (h : Heap) : Prop := (.ref a) = xv ∧ Fld Z h a "java/lang/AbstractStringBuilder" "value" "[B" (.ref t) ∧ Fld Z h a "java/lang/AbstractStringBuilder" "coder" "B" (.int 0) ∧ Fld Z h a "java/lang/AbstractStringBuilder" "count" "I" (.int 2) ∧ Arv Z h t k (.byte) (16 : Int32) [(.int e0), (.int (c0).toInt8.toInt32), (.int e2), (.int e3), (.int e4), (.int e5), (.int e6), (.int e7), (.int e8), (.int e9), (.int e10), (.int e11), (.int e12), (.int e13), (.int e14), (.int e15)] (.int 0)
def Q_puts1_1 (Z : State) (a b t : Addr) (k : ClassId) (c0 e0 e1 e2 e3 e4 e5 e6 e7 e8 e9 e10 e11 e12 e13 e14 e15 : Int32) (h0 : Heap) (h : Heap) : Prop := Arv Z h t k (.byte) (16 : Int32) [(.int e0), (.int (c0).toInt8.toInt32), (.int e2), (.int e3), (.int e4), (.int e5), (.int e6), (.int e7), (.int e8), (.int e9), (.int e10), (.int e11), (.int e12), (.int e13), (.int e14), (.int e15)] (.int 0)
def Q_getb1_1 (Z : State) (a t : Addr) (k : ClassId) (c0 e0 e1 e2 e3 e4 e5 e6 e7 e8 e9 e10 e11 e12 e13 e14 e15 : Int32) (h0 : Heap) (h : Heap) : Prop := Arv Z h t k (.byte) (16 : Int32) [(.int e0), (.int (c0).toInt8.toInt32), (.int e2), (.int e3), (.int e4), (.int e5), (.int e6), (.int e7), (.int e8), (.int e9), (.int e10), (.int e11), (.int e12), (.int e13), (.int e14), (.int e15)] (.int 0)
theorem c_getb1_1 (G : GH Z a0) (a t : Addr) (k : ClassId) (c0 e0 e1 e2 e3 e4 e5 e6 e7 e8 e9 e10 e11 e12 e13 e14 e15 : Int32) (h0 : Heap) (O0 : Old Z Z.heap.size h0) (p1 : Z.heap.size ≤ t) (p2 : Str Z h0 a [c0]) (p3 : Arv Z h0 t k (.byte) (16 : Int32) [(.int e0), (.int e1), (.int e2), (.int e3), (.int e4), (.int e5), (.int e6), (.int e7), (.int e8), (.int e9), (.int e10), (.int e11), (.int e12), (.int e13), (.int e14), (.int e15)] (.int 0)) : Con false [] l Z (⟨"java/lang/String", "getBytes", "([BIB)V"⟩ : MethodName) jdk_42_method_147_code 4 none [] (rm4 1 0 0 18) #[(.ref a), (.ref t), (.int 1), (.int 0)] h0 [t] (rno (Q_getb1_1 Z a t k c0 e0 e1 e2 e3 e4 e5 e6 e7 e8 e9 e10 e11 e12 e13 e14 e15 h0)) := by
  refine conN G (plainFor_of_name pn4) O0 (fun m => ef18 m a t (1 : Int32) (0 : Int32)) ?_
  intro _ _ _ m_ _ _ _ D hml hret hlk hnm
  refine go_aload_n 1 (D d28_0) rfl rfl rfl ?_
  obtain ⟨t1, k2, E3, F4, F5, A6, B7, L8⟩ := id p2
  have A9 : Arv Z h0 t1 k2 .byte (1 : Int32) [(.int (c0).toInt8.toInt32)] (.int 0) := A6
  refine callV0 (cells' := 0) (slots' := 0) (Wd := 0) (argsL := []) (rest := []) (pay_of (a0 := a0) (c_coder l G a h0 O0 F5) (wk G 84) (wk G 4)) E3 (wk G 80) (wk G 81) (wk G 83) (wk G 83) (wk G 82) pd2 (sz hml) all0 sf00 (D d28_1) (k_v 4 rfl ?_)
  rintro _ h10 ⟨rfl, rfl⟩ K11
  refine go_iload_n 5 (D d28_4) rfl rfl ?_
  refine go_icF 8 (D d28_5) rfl (by decide) ?_
  refine go_aload_n 9 (D d28_8) rfl rfl rfl ?_
  refine go_getF 12 (wk G 29) Via.refl F4 (D d28_9) rfl ?_
  refine go_iconst 13 (v := 0) (D d28_12) rfl rfl ?_
  refine go_aload_n 14 (D d28_13) rfl rfl rfl ?_
  refine go_iload_n 15 (D d28_14) rfl rfl ?_
  refine go_iload_n 16 (D d28_15) rfl rfl ?_
  refine go_ishl 17 (z := (1 : Int32)) (D d28_16) rfl (by decide) ?_
  refine go_aload_n 18 (D d28_17) rfl rfl rfl ?_
  refine go_getF 21 (wk G 29) Via.refl F4 (D d28_18) rfl ?_
  refine go_arraylength 22 A9 (D d28_21) rfl ?_
  refine go_acopy 25 (Wd := 0) (vd' := [(.int e0), (.int (c0).toInt8.toInt32), (.int e2), (.int e3), (.int e4), (.int e5), (.int e6), (.int e7), (.int e8), (.int e9), (.int e10), (.int e11), (.int e12), (.int e13), (.int e14), (.int e15)]) (wk G 108) (wk G 111) (wk G 109) (wk G 110) rfl A9 p3 rfl (by decide) (by decide) (by decide) (nb rfl) (nb rfl) (nb rfl) p1 rfl (sz hml) (by decide) (by decide) (by decide) (D d28_22) rfl (fun h12 K13 A14 => ?_)
  refine go_goto 43 (D d28_25) (by decide) rfl ?_
  have K15 : Keep h0 h12 [t] := ((Keep.refl h0 [t]).trans K13 (allS (Or.inl (by simp)) all0))
  refine go_return hret hlk (D d28_43) (by decide) (by decide) ⟨rfl, A14⟩ K15
theorem c_puts1_1 (G : GH Z a0) (a b : Addr) (t : Addr) (k : ClassId) (c0 e0 e1 e2 e3 e4 e5 e6 e7 e8 e9 e10 e11 e12 e13 e14 e15 : Int32) (h0 : Heap) (O0 : Old Z Z.heap.size h0) (p1 : Exa Z h0 a "java/lang/StringBuilder") (p2 : Z.heap.size ≤ a) (p3 : Z.heap.size ≤ t) (p4 : a ≠ t) (p5 : Fld Z h0 a "java/lang/AbstractStringBuilder" "value" "[B" (.ref t)) (p6 : Fld Z h0 a "java/lang/AbstractStringBuilder" "coder" "B" (.int 0)) (p7 : Fld Z h0 a "java/lang/AbstractStringBuilder" "count" "I" (.int 1)) (p8 : Str Z h0 b [c0]) (p9 : Arv Z h0 t k (.byte) (16 : Int32) [(.int e0), (.int e1), (.int e2), (.int e3), (.int e4), (.int e5), (.int e6), (.int e7), (.int e8), (.int e9), (.int e10), (.int e11), (.int e12), (.int e13), (.int e14), (.int e15)] (.int 0)) : Con false [] l Z (⟨"java/lang/AbstractStringBuilder", "putStringAt", "(ILjava/lang/String;)V"⟩ : MethodName) jdk_68_method_73_code 3 none [] (rm4 2 0 0 33) #[(.ref a), (.int 1), (.ref b)] h0 [t] (rno (Q_puts1_1 Z a b t k c0 e0 e1 e2 e3 e4 e5 e6 e7 e8 e9 e10 e11 e12 e13 e14 e15 h0)) := by
  refine conN G (plainFor_of_name pn2) O0 (fun m => ef17 m a (1 : Int32) b) ?_
  intro _ _ _ m_ _ _ _ D hml hret hlk hnm
  refine go_aload_n 1 (D d27_0) rfl rfl rfl ?_
  refine go_aload_n 2 (D d27_1) rfl rfl rfl ?_
  obtain ⟨t1, k2, E3, F4, F5, A6, B7, L8⟩ := id p8
  have A9 : Arv Z h0 t1 k2 .byte (1 : Int32) [(.int (c0).toInt8.toInt32)] (.int 0) := A6
  refine callP0 (cells' := 0) (slots' := 0) (Wd := 0) (argsL := [(.ref b)]) (rest := []) (pay_of (a0 := a0) (c_inflate l G a b h0 O0 p6 p8.exa F5) (wk G 101) (wk G 57)) p1 (wk G 97) (wk G 98) (sel_priv (wk G 100) (wk G 98) (wk G 99) (by decide)) (wk G 99) (wk G 101) pd15 (sz hml) all0 sf00 (D d27_2) (k_n 5 rfl ?_)
  rintro  h10 rfl K11
  refine go_aload_n 6 (D d27_5) rfl rfl rfl ?_
  refine go_aload_n 7 (D d27_6) rfl rfl rfl ?_
  refine go_getF 10 (wk G 61) Via.refl p5 (D d27_7) rfl ?_
  refine go_iload_n 11 (D d27_10) rfl rfl ?_
  refine go_aload_n 12 (D d27_11) rfl rfl rfl ?_
  refine go_getF 15 (wk G 63) Via.refl p6 (D d27_12) rfl ?_
  refine callV0 (cells' := 0) (slots' := 0) (Wd := 0) (argsL := [(.ref t), (.int 1), (.int 0)]) (rest := []) (pay_of (a0 := a0) (c_getb1_1 l G b t k c0 e0 e1 e2 e3 e4 e5 e6 e7 e8 e9 e10 e11 e12 e13 e14 e15 h0 O0 p3 p8 p9) (wk G 107) (wk G 4)) E3 (wk G 103) (wk G 104) (wk G 106) (wk G 106) (wk G 105) pd16 (sz hml) (allS p3 all0) (fun _ hal => (sfS safe_nil sf0)) (D d27_15) (k_n 18 rfl ?_)
  rintro  h12 f14 K13
  have K15 : Keep h0 h12 [t] := ((Keep.refl h0 [t]).trans K13 (allS (Or.inl (by simp)) all0))
  refine go_return hret hlk (D d27_18) (by decide) (by decide) ⟨rfl, f14⟩ K15
theorem c_asbapp1_1 (G : GH Z a0) (a b : Addr) (t : Addr) (k : ClassId) (c0 e0 e1 e2 e3 e4 e5 e6 e7 e8 e9 e10 e11 e12 e13 e14 e15 : Int32) (h0 : Heap) (O0 : Old Z Z.heap.size h0) (p1 : Exa Z h0 a "java/lang/StringBuilder") (p2 : Z.heap.size ≤ a) (p3 : Z.heap.size ≤ t) (p4 : a ≠ t) (p5 : Fld Z h0 a "java/lang/AbstractStringBuilder" "value" "[B" (.ref t)) (p6 : Fld Z h0 a "java/lang/AbstractStringBuilder" "coder" "B" (.int 0)) (p7 : Fld Z h0 a "java/lang/AbstractStringBuilder" "count" "I" (.int 1)) (p8 : Str Z h0 b [c0]) (p9 : Arv Z h0 t k (.byte) (16 : Int32) [(.int e0), (.int e1), (.int e2), (.int e3), (.int e4), (.int e5), (.int e6), (.int e7), (.int e8), (.int e9), (.int e10), (.int e11), (.int e12), (.int e13), (.int e14), (.int e15)] (.int 0)) : Con false [] l Z (⟨"java/lang/AbstractStringBuilder", "append", "(Ljava/lang/String;)Ljava/lang/AbstractStringBuilder;"⟩ : MethodName) jdk_68_method_22_code 3 (some (.object "java/lang/AbstractStringBuilder")) [] (rm4 3 0 0 47) #[(.ref a), (.ref b)] h0 [a, t] (rvl (Q_asbapp1_1 Z a b t k c0 e0 e1 e2 e3 e4 e5 e6 e7 e8 e9 e10 e11 e12 e13 e14 e15 h0)) := by
  refine conN G (plainFor_of_name pn2) O0 (fun m => ef16 m a b) ?_
  intro _ _ _ m_ _ _ _ D hml hret hlk hnm
  refine go_aload_n 1 (D d26_0) rfl rfl rfl ?_
  refine go_nnT 9 (D d26_1) (by decide) rfl ?_
  refine go_aload_n 10 (D d26_9) rfl rfl rfl ?_
  refine callV0 (cells' := 0) (slots' := 0) (Wd := 0) (argsL := []) (rest := []) (pay_len G O0 (n := (1 : Int32)) p8 rfl (by decide) (by decide)) p8.exa (wk G 75) (wk G 76) (wk G 78) (wk G 78) (wk G 77) pd3 (sz hml) all0 sf00 (D d26_10) (k_v 13 rfl ?_)
  rintro _ _ ⟨rfl, rfl⟩ -
  refine go_istore_n 14 (ls' := #[vr a, vr b, vi 1]) (D d26_13) rfl rfl ?_
  refine go_aload_n 15 (D d26_14) rfl rfl rfl ?_
  refine go_aload_n 16 (D d26_15) rfl rfl rfl ?_
  refine go_getF 19 (wk G 85) Via.refl p7 (D d26_16) rfl ?_
  refine go_iload_n 20 (D d26_19) rfl rfl ?_
  refine go_iadd 21 (z := (2 : Int32)) (D d26_20) rfl (by decide) ?_
  refine callP0 (cells' := 0) (slots' := 0) (Wd := 0) (argsL := [(.int 2)]) (rest := []) (pay_of (a0 := a0) (c_ensure l G a (2 : Int32) t k [(.int e0), (.int e1), (.int e2), (.int e3), (.int e4), (.int e5), (.int e6), (.int e7), (.int e8), (.int e9), (.int e10), (.int e11), (.int e12), (.int e13), (.int e14), (.int e15)] h0 O0 p5 p6 p9 (by decide)) (wk G 91) (wk G 57)) p1 (wk G 87) (wk G 88) (sel_priv (wk G 90) (wk G 88) (wk G 89) (by decide)) (wk G 89) (wk G 91) pd1 (sz hml) all0 sf00 (D d26_21) (k_n 24 rfl ?_)
  rintro  h1 rfl K2
  refine go_aload_n 25 (D d26_24) rfl rfl rfl ?_
  refine go_aload_n 26 (D d26_25) rfl rfl rfl ?_
  refine go_getF 29 (wk G 85) Via.refl p7 (D d26_26) rfl ?_
  refine go_aload_n 30 (D d26_29) rfl rfl rfl ?_
  refine callP0 (cells' := 0) (slots' := 0) (Wd := 0) (argsL := [(.int 1), (.ref b)]) (rest := []) (pay_of (a0 := a0) (c_puts1_1 l G a b t k c0 e0 e1 e2 e3 e4 e5 e6 e7 e8 e9 e10 e11 e12 e13 e14 e15 h0 O0 p1 p2 p3 p4 p5 p6 p7 p8 p9) (wk G 96) (wk G 57)) p1 (wk G 92) (wk G 93) (sel_priv (wk G 95) (wk G 93) (wk G 94) (by decide)) (wk G 94) (wk G 96) pd17 (sz hml) (allS p3 all0) (fun _ hal => (sfS safe_nil sf0)) (D d26_30) (k_n 33 rfl ?_)
  rintro  h3 f5 K4
  refine go_aload_n 34 (D d26_33) rfl rfl rfl ?_
  refine go_dup 35 (D d26_34) rfl rfl ?_
  have F6 := (p7.keep K4 (ninS p4 nin0))
  refine go_getF 38 (wk G 85) Via.refl F6 (D d26_35) rfl ?_
  refine go_iload_n 39 (D d26_38) rfl rfl ?_
  refine go_iadd 40 (z := (2 : Int32)) (D d26_39) rfl (by decide) ?_
  have E7 := (p1.keep K4)
  refine go_putF 43 (wk G 85) Via.refl F6 E7 (Or.inl (wk G 86)) (wk G 48) (ty := .int) (v' := (.int 2)) (by decide) rfl rfl p2 (Or.inr rfl) (D d26_40) rfl (fun h8 W9 => ?_)
  have F10 := Fld.same W9 F6
  refine go_aload_n 44 (D d26_43) rfl rfl rfl ?_
  have K11 : Keep h0 h3 [a, t] := ((Keep.refl h0 [a, t]).trans K4 (allS (Or.inl (by simp)) all0))
  have K12 : Keep h0 h8 [a, t] := (K11.wr W9 (Or.inl (by simp)))
  have F13 := ((p5.keep K4 (ninS p4 nin0)).other W9 (Or.inr (slot_ne (t := (.array .byte)) (t' := .int) (Or.inl (wk G 62)) (Or.inl (wk G 86)) (by decide) (by decide) (by decide))))
  have F14 := ((p6.keep K4 (ninS p4 nin0)).other W9 (Or.inr (slot_ne (t := .byte) (t' := .int) (Or.inl (wk G 64)) (Or.inl (wk G 86)) (by decide) (by decide) (by decide))))
  have A15 := (f5.other W9 (Ne.symm p4))
  refine go_areturn hret hlk rfl rfl (D d26_44) (by decide) (by decide) ⟨_, rfl, ⟨rfl, F13, F14, F10, A15⟩⟩ K12
theorem c_sbapp1_1 (G : GH Z a0) (a b : Addr) (t : Addr) (k : ClassId) (c0 e0 e1 e2 e3 e4 e5 e6 e7 e8 e9 e10 e11 e12 e13 e14 e15 : Int32) (h0 : Heap) (O0 : Old Z Z.heap.size h0) (p1 : Exa Z h0 a "java/lang/StringBuilder") (p2 : Z.heap.size ≤ a) (p3 : Z.heap.size ≤ t) (p4 : a ≠ t) (p5 : Fld Z h0 a "java/lang/AbstractStringBuilder" "value" "[B" (.ref t)) (p6 : Fld Z h0 a "java/lang/AbstractStringBuilder" "coder" "B" (.int 0)) (p7 : Fld Z h0 a "java/lang/AbstractStringBuilder" "count" "I" (.int 1)) (p8 : Str Z h0 b [c0]) (p9 : Arv Z h0 t k (.byte) (16 : Int32) [(.int e0), (.int e1), (.int e2), (.int e3), (.int e4), (.int e5), (.int e6), (.int e7), (.int e8), (.int e9), (.int e10), (.int e11), (.int e12), (.int e13), (.int e14), (.int e15)] (.int 0)) : Con false [] l Z (⟨"java/lang/StringBuilder", "append", "(Ljava/lang/String;)Ljava/lang/StringBuilder;"⟩ : MethodName) jdk_67_method_7_code 2 (some (.object "java/lang/StringBuilder")) [] (rm4 4 0 0 61) #[(.ref a), (.ref b)] h0 [a, t] (rvl (Q_sbapp1_1 Z a b t k c0 e0 e1 e2 e3 e4 e5 e6 e7 e8 e9 e10 e11 e12 e13 e14 e15 h0)) := by
  refine conN G (plainFor_of_name pn3) O0 (fun m => ef6 m a b) ?_
  intro _ _ _ m_ _ _ _ D hml hret hlk hnm
  refine go_aload_n 1 (D d25_0) rfl rfl rfl ?_
  refine go_aload_n 2 (D d25_1) rfl rfl rfl ?_
  refine callU0 (cells' := 0) (slots' := 0) (Wd := 0) (argsL := [(.ref b)]) (rest := []) (pay_of (a0 := a0) (c_asbapp1_1 l G a b t k c0 e0 e1 e2 e3 e4 e5 e6 e7 e8 e9 e10 e11 e12 e13 e14 e15 h0 O0 p1 p2 p3 p4 p5 p6 p7 p8 p9) (wk G 74) (wk G 57)) (Ins.self p1) (wk G 70) (same_self (z := (⟨"java/lang/AbstractStringBuilder", "ensureCapacityInternal", "(I)V"⟩ : MethodName)) rfl (wk G 90) (wk G 71) (by decide)) (wk G 71) (wk G 72) (wk G 74) pd18 (sz hml) (allS p2 (allS p3 all0)) (fun _ hal => (sfS safe_nil (sfS safe_nil sf0))) (D d25_2) (k_v 5 rfl ?_)
  rintro _ h1 ⟨rfl, f3, f4, f5, f6⟩ K2
  refine go_pop 6 (D d25_5) rfl rfl ?_
  refine go_aload_n 7 (D d25_6) rfl rfl rfl ?_
  have K7 : Keep h0 h1 [a, t] := ((Keep.refl h0 [a, t]).trans K2 (allS (Or.inl (by simp)) (allS (Or.inl (by simp)) all0)))
  refine go_areturn hret hlk rfl rfl (D d25_7) (by decide) (by decide) ⟨_, rfl, ⟨rfl, f3, f4, f5, f6⟩⟩ K7
def Q_sbappi2 (Z : State) (a : Addr) (p : Int32) (t : Addr) (k : ClassId) (L : List Value) (h0 : Heap) (xv : Value) (h : Heap) : Prop := (.ref a) = xv ∧ Fld Z h a "java/lang/AbstractStringBuilder" "value" "[B" (.ref t) ∧ Fld Z h a "java/lang/AbstractStringBuilder" "coder" "B" (.int 0) ∧ Fld Z h a "java/lang/AbstractStringBuilder" "count" "I" (.int (Int32.ofNat (2 + (rep p).length))) ∧ Arv Z h t k (.byte) (16 : Int32) (tk L 2 ((rep p).map Value.int) (2 + (rep p).length)) (.int 0)
def Q_asbappi2 (Z : State) (a : Addr) (p : Int32) (t : Addr) (k : ClassId) (L : List Value) (h0 : Heap) (xv : Value) (h : Heap) : Prop := (.ref a) = xv ∧ Fld Z h a "java/lang/AbstractStringBuilder" "value" "[B" (.ref t) ∧ Fld Z h a "java/lang/AbstractStringBuilder" "coder" "B" (.int 0) ∧ Fld Z h a "java/lang/AbstractStringBuilder" "count" "I" (.int (Int32.ofNat (2 + (rep p).length))) ∧ Arv Z h t k (.byte) (16 : Int32) (tk L 2 ((rep p).map Value.int) (2 + (rep p).length)) (.int 0)
theorem c_asbappi2 (G : GH Z a0) (a : Addr) (p : Int32) (t : Addr) (k : ClassId) (L : List Value) (h0 : Heap) (O0 : Old Z Z.heap.size h0) (p1 : Exa Z h0 a "java/lang/StringBuilder") (p2 : Z.heap.size ≤ a) (p3 : Z.heap.size ≤ t) (p4 : a ≠ t) (p5 : Fld Z h0 a "java/lang/AbstractStringBuilder" "value" "[B" (.ref t)) (p6 : Fld Z h0 a "java/lang/AbstractStringBuilder" "coder" "B" (.int 0)) (p7 : Fld Z h0 a "java/lang/AbstractStringBuilder" "count" "I" (.int 2)) (p8 : Arv Z h0 t k (.byte) (16 : Int32) L (.int 0)) (p9 : L.length = 16) : Con false [] l Z (⟨"java/lang/AbstractStringBuilder", "append", "(I)Ljava/lang/AbstractStringBuilder;"⟩ : MethodName) jdk_68_method_32_code 4 (some (.object "java/lang/AbstractStringBuilder")) [] (rm4 1 0 0 18) #[(.ref a), (.int p)] h0 [a, t] (rvl (Q_asbappi2 Z a p t k L h0)) := by
  refine conN G (plainFor_of_name pn2) O0 (fun m => ef19 m a p) ?_
  intro _ _ _ m_ _ _ _ D hml hret hlk hnm
  refine go_aload_n 1 (D d30_0) rfl rfl rfl ?_
  refine go_getF 4 (wk G 85) Via.refl p7 (D d30_1) rfl ?_
  refine go_istore_n 5 (ls' := #[vr a, vi p, vi 2, un]) (D d30_4) rfl rfl ?_
  refine go_iload_n 6 (D d30_5) rfl rfl ?_
  refine go_iload_n 7 (D d30_6) rfl rfl ?_
  refine callS0 (cells' := 0) (slots' := 0) (Wd := 1) (argsL := [(.int p)]) (rest := [(.int 2)]) (pay_of (a0 := a0) (c_strsz l G p h0 O0 ) (wk G 127) (wk G 126)) (wk G 124) (wk G 125) (wk G 126) (wk G 127) pd20 (sz hml) all0 sf00 (D d30_7) (k_v 10 rfl ?_)
  rintro _ h1 ⟨r3, rfl, rfl, f4⟩ K2
  subst f4
  refine go_iadd 11 (z := (Int32.ofNat (2 + (rep p).length))) (D d30_10) rfl (ofn_add (n := 2) (k := (rep p).length) (by have := rep_b p; omega)) ?_
  refine go_istore_n 12 (ls' := #[vr a, vi p, vi 2, vi (Int32.ofNat (2 + (rep p).length))]) (D d30_11) rfl rfl ?_
  refine go_aload_n 13 (D d30_12) rfl rfl rfl ?_
  refine go_iload_n 14 (D d30_13) rfl rfl ?_
  refine callP0 (cells' := 0) (slots' := 0) (Wd := 0) (argsL := [(.int (Int32.ofNat (2 + (rep p).length)))]) (rest := []) (pay_of (a0 := a0) (c_ensure l G a (Int32.ofNat (2 + (rep p).length)) t k L h0 O0 p5 p6 p8 (ens_ok (by have := rep_b p; omega))) (wk G 91) (wk G 57)) p1 (wk G 87) (wk G 88) (sel_priv (wk G 90) (wk G 88) (wk G 89) (by decide)) (wk G 89) (wk G 91) pd1 (sz hml) all0 sf00 (D d30_14) (k_n 17 rfl ?_)
  rintro  h5 rfl K6
  refine go_aload_n 18 (D d30_17) rfl rfl rfl ?_
  refine callV0 (cells' := 0) (slots' := 0) (Wd := 0) (argsL := []) (rest := []) (pay_of (a0 := a0) (c_asblatin l G a h0 O0 p6) (wk G 132) (wk G 57)) p1 (wk G 128) (wk G 129) (wk G 131) (wk G 131) (wk G 130) pd8 (sz hml) all0 sf00 (D d30_18) (k_v 21 rfl ?_)
  rintro _ h7 ⟨rfl, rfl⟩ K8
  refine go_ifF 24 (D d30_21) rfl (by decide) ?_
  refine go_iload_n 25 (D d30_24) rfl rfl ?_
  refine go_iload_n 26 (D d30_25) rfl rfl ?_
  refine go_aload_n 27 (D d30_26) rfl rfl rfl ?_
  refine go_getF 30 (wk G 61) Via.refl p5 (D d30_27) rfl ?_
  refine callS0 (cells' := 0) (slots' := 0) (Wd := 0) (argsL := [(.int p), (.int (Int32.ofNat (2 + (rep p).length))), (.ref t)]) (rest := []) (pay_of (a0 := a0) (c_getch l G p (Int32.ofNat (2 + (rep p).length)) t k L 2 h0 O0 p3 rfl (by decide) p9 p8) (wk G 135) (wk G 126)) (wk G 133) (wk G 134) (wk G 126) (wk G 135) pd21 (sz hml) (allS p3 all0) (fun _ hal => (sfS safe_nil sf0)) (D d30_30) (k_v 33 rfl ?_)
  rintro _ h9 ⟨r11, rfl, f12⟩ K10
  refine go_pop 34 (D d30_33) rfl rfl ?_
  refine go_goto 48 (D d30_34) (by decide) rfl ?_
  refine go_aload_n 49 (D d30_48) rfl rfl rfl ?_
  refine go_iload_n 50 (D d30_49) rfl rfl ?_
  have F13 := (p7.keep K10 (ninS p4 nin0))
  have E14 := (p1.keep K10)
  refine go_putF 53 (wk G 85) Via.refl F13 E14 (Or.inl (wk G 86)) (wk G 48) (ty := .int) (v' := (.int (Int32.ofNat (2 + (rep p).length)))) (by decide) rfl rfl p2 (Or.inr rfl) (D d30_50) rfl (fun h15 W16 => ?_)
  have F17 := Fld.same W16 F13
  refine go_aload_n 54 (D d30_53) rfl rfl rfl ?_
  have K18 : Keep h0 h9 [a, t] := ((Keep.refl h0 [a, t]).trans K10 (allS (Or.inl (by simp)) all0))
  have K19 : Keep h0 h15 [a, t] := (K18.wr W16 (Or.inl (by simp)))
  have F20 := ((p5.keep K10 (ninS p4 nin0)).other W16 (Or.inr (slot_ne (t := (.array .byte)) (t' := .int) (Or.inl (wk G 62)) (Or.inl (wk G 86)) (by decide) (by decide) (by decide))))
  have F21 := ((p6.keep K10 (ninS p4 nin0)).other W16 (Or.inr (slot_ne (t := .byte) (t' := .int) (Or.inl (wk G 64)) (Or.inl (wk G 86)) (by decide) (by decide) (by decide))))
  have A22 := (f12.other W16 (Ne.symm p4))
  refine go_areturn hret hlk rfl rfl (D d30_54) (by decide) (by decide) ⟨_, rfl, ⟨rfl, F20, F21, F17, A22⟩⟩ K19
theorem c_sbappi2 (G : GH Z a0) (a : Addr) (p : Int32) (t : Addr) (k : ClassId) (L : List Value) (h0 : Heap) (O0 : Old Z Z.heap.size h0) (p1 : Exa Z h0 a "java/lang/StringBuilder") (p2 : Z.heap.size ≤ a) (p3 : Z.heap.size ≤ t) (p4 : a ≠ t) (p5 : Fld Z h0 a "java/lang/AbstractStringBuilder" "value" "[B" (.ref t)) (p6 : Fld Z h0 a "java/lang/AbstractStringBuilder" "coder" "B" (.int 0)) (p7 : Fld Z h0 a "java/lang/AbstractStringBuilder" "count" "I" (.int 2)) (p8 : Arv Z h0 t k (.byte) (16 : Int32) L (.int 0)) (p9 : L.length = 16) : Con false [] l Z (⟨"java/lang/StringBuilder", "append", "(I)Ljava/lang/StringBuilder;"⟩ : MethodName) jdk_67_method_15_code 2 (some (.object "java/lang/StringBuilder")) [] (rm4 2 0 0 33) #[(.ref a), (.int p)] h0 [a, t] (rvl (Q_sbappi2 Z a p t k L h0)) := by
  refine conN G (plainFor_of_name pn3) O0 (fun m => ef3 m a p) ?_
  intro _ _ _ m_ _ _ _ D hml hret hlk hnm
  refine go_aload_n 1 (D d29_0) rfl rfl rfl ?_
  refine go_iload_n 2 (D d29_1) rfl rfl ?_
  refine callU0 (cells' := 0) (slots' := 0) (Wd := 0) (argsL := [(.int p)]) (rest := []) (pay_of (a0 := a0) (c_asbappi2 l G a p t k L h0 O0 p1 p2 p3 p4 p5 p6 p7 p8 p9) (wk G 123) (wk G 57)) (Ins.self p1) (wk G 120) (same_self (z := (⟨"java/lang/AbstractStringBuilder", "ensureCapacityInternal", "(I)V"⟩ : MethodName)) rfl (wk G 90) (wk G 121) (by decide)) (wk G 121) (wk G 72) (wk G 123) pd22 (sz hml) (allS p2 (allS p3 all0)) (fun _ hal => (sfS safe_nil (sfS safe_nil sf0))) (D d29_2) (k_v 5 rfl ?_)
  rintro _ h1 ⟨rfl, f3, f4, f5, f6⟩ K2
  refine go_pop 6 (D d29_5) rfl rfl ?_
  refine go_aload_n 7 (D d29_6) rfl rfl rfl ?_
  have K7 : Keep h0 h1 [a, t] := ((Keep.refl h0 [a, t]).trans K2 (allS (Or.inl (by simp)) (allS (Or.inl (by simp)) all0)))
  refine go_areturn hret hlk rfl rfl (D d29_7) (by decide) (by decide) ⟨_, rfl, ⟨rfl, f3, f4, f5, f6⟩⟩ K7
theorem c_hpts1 (G : GH Z a0) (a : Addr) (s : Addr) (p c0 : Int32) (h0 : Heap) (O0 : Old Z Z.heap.size h0) (p1 : Fld Z h0 a "com/example/onceward/onceward/HostPort" "host" "Ljava/lang/String;" (.ref s)) (p2 : Fld Z h0 a "com/example/onceward/onceward/HostPort" "port" "I" (.int p)) (p3 : Str Z h0 s [c0]) : Con true EL1 l Z (⟨"com/example/onceward/onceward/HostPort", "toString", "()Ljava/lang/String;"⟩ : MethodName) prog_9_method_7_code 1 (some (.object "java/lang/String")) [] (rm4 6 6 48 91) #[(.ref a)] h0 [] (rvl (Q_hpts1 Z a s p c0 h0)) := by
  refine conW G (plainFor_of_name pn6) O0 (fun m => ef4 m a) ?_
  intro _ _ _ m_ _ _ _ D hml hret hlk hnm
  refine go_newO 3 (cells' := 1) (slots' := 4) (wk G 47) (wk G 48) (wk G 49) (D d24_0) rfl rfl rfl (by decide) (by decide) (fun h1 a2 g3 X4 E5 D6 U7 => ?_)
  refine go_dup 4 (D d24_3) rfl rfl ?_
  have F8 := D6 (Or.inl (wk G 62)) (ty := (.array .byte)) (by decide)
  have F9 := D6 (Or.inl (wk G 64)) (ty := .byte) (by decide)
  have F10 := D6 (Or.inl (wk G 86)) (ty := .int) (by decide)
  refine go_old (fun O11 => ?_)
  refine callI0 (cells' := 2) (slots' := 20) (Wd := 1) (argsL := []) (rest := [(.ref a2)]) (pay_of (a0 := a0) (c_sbinit l G a2 h1 O11 E5 (Nat.le_trans O0.2.1 (Nat.le_of_eq g3)) F8 F9 F10) (wk G 52) (wk G 49)) rfl (wk G 50) (wk G 51) (wk G 52) pd14 (sz hml) (allS (Nat.le_trans O0.2.1 (Nat.le_of_eq g3)) all0) (fun _ hal => (sfS (Safe.exa hal E5 (by decide) (by decide)) sf0)) (D d24_4) (k_n 7 rfl ?_)
  rintro  h12 ⟨r14, r15, f16, f17, f18, f19, f20⟩ K13
  refine go_aload_n 8 (D d24_7) rfl rfl rfl ?_
  have K21 : Keep h0 h1 [] := ((Keep.refl h0 []).ext X4)
  have K22 : Keep h0 h12 [] := (K21.trans K13 (allS (Or.inr (Nat.le_of_eq g3)) all0))
  have F23 := (p1.keep K22 nin0)
  refine go_getF 11 (wk G 38) Via.refl F23 (D d24_8) rfl ?_
  have E24 := (E5.keep K13)
  have S25 := (p3.keep K22)
  refine go_old (fun O26 => ?_)
  refine callV0 (cells' := 2) (slots' := 20) (Wd := 0) (argsL := [(.ref s)]) (rest := []) (pay_of (a0 := a0) (c_sbapp0_1 l G a2 s r14 r15 c0 (0 : Int32) (0 : Int32) (0 : Int32) (0 : Int32) (0 : Int32) (0 : Int32) (0 : Int32) (0 : Int32) (0 : Int32) (0 : Int32) (0 : Int32) (0 : Int32) (0 : Int32) (0 : Int32) (0 : Int32) (0 : Int32) h12 O26 E24 (Nat.le_trans O0.2.1 (Nat.le_of_eq g3)) (Nat.le_trans O0.2.1 (Nat.le_trans K21.1 f16)) (Nat.ne_of_lt (Nat.lt_of_lt_of_le E5.lt f16)) f17 f18 f19 S25 f20) (wk G 69) (wk G 49)) E24 (wk G 65) (wk G 66) (wk G 68) (wk G 68) (wk G 67) pd19 (sz hml) (allS (Nat.le_trans O0.2.1 (Nat.le_of_eq g3)) (allS (Nat.le_trans O0.2.1 (Nat.le_trans K21.1 f16)) all0)) (fun _ hal => (sfS (Safe.exa hal E24 (by decide) (by decide)) (sfS (safe16 (ew16 G) hal f20) sf0))) (D d24_11) (k_v 14 rfl ?_)
  rintro _ h27 ⟨rfl, f29, f30, f31, f32⟩ K28
  refine go_ldcH 16 (cells' := 4) (slots' := 28) (n := 4) (vs := (([(58 : Int32)] : List Int32).map fun c => c.toInt8.toInt32).map Value.int) (z := (1 : Int32)) rfl (by decide) (wk G 112) (wS G) (by decide +kernel) (by decide) (by decide) (by decide) (by decide) (D d24_14) rfl rfl rfl (by decide) (by decide) (fun h33 a34 t36 k37 X35 E38 F39 F40 A41 => ?_)
  have S42 : Str Z h33 a34 [(58 : Int32)] := ⟨t36, k37, E38, F40, F39, A41, by decide, by decide⟩
  have E43 := ((E24.keep K28).ext X35)
  have K44 : Keep h27 h33 [] := ((Keep.refl h27 []).ext X35)
  have F45 := (f29.keep K44 nin0)
  have F46 := (f30.keep K44 nin0)
  have F47 := (f31.keep K44 nin0)
  have A48 := (f32.keep K44 nin0)
  refine go_old (fun O49 => ?_)
  refine callV0 (cells' := 4) (slots' := 28) (Wd := 0) (argsL := [(.ref a34)]) (rest := []) (pay_of (a0 := a0) (c_sbapp1_1 l G a2 a34 r14 r15 (58 : Int32) ((c0).toInt8.toInt32) (0 : Int32) (0 : Int32) (0 : Int32) (0 : Int32) (0 : Int32) (0 : Int32) (0 : Int32) (0 : Int32) (0 : Int32) (0 : Int32) (0 : Int32) (0 : Int32) (0 : Int32) (0 : Int32) (0 : Int32) h33 O49 E43 (Nat.le_trans O0.2.1 (Nat.le_of_eq g3)) (Nat.le_trans O0.2.1 (Nat.le_trans K21.1 f16)) (Nat.ne_of_lt (Nat.lt_of_lt_of_le E5.lt f16)) F45 F46 F47 S42 A48) (wk G 69) (wk G 49)) E43 (wk G 65) (wk G 66) (wk G 68) (wk G 68) (wk G 67) pd19 (sz hml) (allS (Nat.le_trans O0.2.1 (Nat.le_of_eq g3)) (allS (Nat.le_trans O0.2.1 (Nat.le_trans K21.1 f16)) all0)) (fun _ hal => (sfS (Safe.exa hal E43 (by decide) (by decide)) (sfS (safe16 (ew16 G) hal A48) sf0))) (D d24_16) (k_v 19 rfl ?_)
  rintro _ h50 ⟨rfl, f52, f53, f54, f55⟩ K51
  refine go_aload_n 20 (D d24_19) rfl rfl rfl ?_
  have K56 : Keep h0 h27 [] := (K22.trans K28 (allS (Or.inr (Nat.le_of_eq g3)) (allS (Or.inr (Nat.le_trans K21.1 f16)) all0)))
  have K57 : Keep h0 h33 [] := (K56.ext X35)
  have K58 : Keep h0 h50 [] := (K57.trans K51 (allS (Or.inr (Nat.le_of_eq g3)) (allS (Or.inr (Nat.le_trans K21.1 f16)) all0)))
  have F59 := (p2.keep K58 nin0)
  refine go_getF 23 (wk G 40) Via.refl F59 (D d24_20) rfl ?_
  have E60 := (E43.keep K51)
  refine go_old (fun O61 => ?_)
  refine callV0 (cells' := 4) (slots' := 28) (Wd := 0) (argsL := [(.int p)]) (rest := []) (pay_of (a0 := a0) (c_sbappi2 l G a2 p r14 r15 [(.int (c0).toInt8.toInt32), (.int ((58 : Int32)).toInt8.toInt32), (.int 0), (.int 0), (.int 0), (.int 0), (.int 0), (.int 0), (.int 0), (.int 0), (.int 0), (.int 0), (.int 0), (.int 0), (.int 0), (.int 0)] h50 O61 E60 (Nat.le_trans O0.2.1 (Nat.le_of_eq g3)) (Nat.le_trans O0.2.1 (Nat.le_trans K21.1 f16)) (Nat.ne_of_lt (Nat.lt_of_lt_of_le E5.lt f16)) f52 f53 f54 f55 rfl) (wk G 119) (wk G 49)) E60 (wk G 115) (wk G 116) (wk G 118) (wk G 118) (wk G 117) pd23 (sz hml) (allS (Nat.le_trans O0.2.1 (Nat.le_of_eq g3)) (allS (Nat.le_trans O0.2.1 (Nat.le_trans K21.1 f16)) all0)) (fun _ hal => (sfS (Safe.exa hal E60 (by decide) (by decide)) (sfS (safe16 (ew16 G) hal f55) sf0))) (D d24_23) (k_v 26 rfl ?_)
  rintro _ h62 ⟨rfl, f64, f65, f66, f67⟩ K63
  have E68 := (E60.keep K63)
  refine go_old (fun O69 => ?_)
  refine callV0 (cells' := 6) (slots' := 48) (Wd := 0) (argsL := []) (rest := []) (pay_of (a0 := a0) (c_sbts l G a2 r14 r15 (tk [(.int (c0).toInt8.toInt32), (.int ((58 : Int32)).toInt8.toInt32), (.int 0), (.int 0), (.int 0), (.int 0), (.int 0), (.int 0), (.int 0), (.int 0), (.int 0), (.int 0), (.int 0), (.int 0), (.int 0), (.int 0)] 2 ((rep p).map Value.int) (2 + (rep p).length)) (2 + (rep p).length) h62 O69 E68 f64 f65 f66 f67 (tk16 rfl (by decide)) (by have := rep_b p; omega)) (wk G 141) (wk G 49)) E68 (wk G 137) (wk G 138) (wk G 140) (wk G 140) (wk G 139) pd24 (sz hml) all0 sf00 (D d24_26) (k_v 29 rfl ?_)
  rintro _ h70 ⟨r72, r73, r74, rfl, f75, f76, f77, f78, f79⟩ K71
  have q80 : C8 c0 := by obtain ⟨_, _, _, _, _, _, q, _⟩ := id p3; exact q _ (by simp)
  have S81 : Str Z h70 r72 ([c0, (58 : Int32)] ++ rep p) := mk_str (L := [(.int (c0).toInt8.toInt32), (.int ((58 : Int32)).toInt8.toInt32), (.int 0), (.int 0), (.int 0), (.int 0), (.int 0), (.int 0), (.int 0), (.int 0), (.int 0), (.int 0), (.int 0), (.int 0), (.int 0), (.int 0)]) rfl f76 f77 f78 f79 rfl (nb rfl) (c8c q80 (c8c (by decide) c8n))
  have K82 : Keep h0 h62 [] := (K58.trans K63 (allS (Or.inr (Nat.le_of_eq g3)) (allS (Or.inr (Nat.le_trans K21.1 f16)) all0)))
  have K83 : Keep h0 h70 [] := (K82.trans K71 all0)
  refine go_areturn hret hlk rfl rfl (D d24_29) (by decide) (by decide) ⟨_, rfl, ⟨r72, rfl, S81⟩⟩ K83
def Q_hpts2 (Z : State) (a s : Addr) (p c0 c1 : Int32) (h0 : Heap) (xv : Value) (h : Heap) : Prop := ∃ (r : Addr), (.ref r) = xv ∧ Str Z h r ([c0, c1, (58 : Int32)] ++ rep p)
def Q_sbapp0_2 (Z : State) (a b t : Addr) (k : ClassId) (c0 c1 e0 e1 e2 e3 e4 e5 e6 e7 e8 e9 e10 e11 e12 e13 e14 e15 : Int32) (h0 : Heap) (xv : Value) (h : Heap) : Prop := (.ref a) = xv ∧ Fld Z h a "java/lang/AbstractStringBuilder" "value" "[B" (.ref t) ∧ Fld Z h a "java/lang/AbstractStringBuilder" "coder" "B" (.int 0) ∧ Fld Z h a "java/lang/AbstractStringBuilder" "count" "I" (.int 2) ∧ Arv Z h t k (.byte) (16 : Int32) [(.int (c0).toInt8.toInt32), (.int (c1).toInt8.toInt32), (.int e2), (.int e3), (.int e4), (.int e5), (.int e6), (.int e7), (.int e8), (.int e9), (.int e10), (.int e11), (.int e12), (.int e13), (.int e14), (.int e15)] (.int 0)
def Q_asbapp0_2 (Z : State) (a b t : Addr) (k : ClassId) (c0 c1 e0 e1 e2 e3 e4 e5 e6 e7 e8 e9 e10 e11 e12 e13 e14 e15 : Int32) (h0 : Heap) (xv : Value) (h : Heap) : Prop := (.ref a) = xv ∧ Fld Z h a "java/lang/AbstractStringBuilder" "value" "[B" (.ref t) ∧ Fld Z h a "java/lang/AbstractStringBuilder" "coder" "B" (.int 0) ∧ Fld Z h a "java/lang/AbstractStringBuilder" "count" "I" (.int 2) ∧ Arv Z h t k (.byte) (16 : Int32) [(.int (c0).toInt8.toInt32), (.int (c1).toInt8.toInt32), (.int e2), (.int e3), (.int e4), (.int e5), (.int e6), (.int e7), (.int e8), (.int e9), (.int e10), (.int e11), (.int e12), (.int e13), (.int e14), (.int e15)] (.int 0)
def Q_puts0_2 (Z : State) (a b t : Addr) (k : ClassId) (c0 c1 e0 e1 e2 e3 e4 e5 e6 e7 e8 e9 e10 e11 e12 e13 e14 e15 : Int32) (h0 : Heap) (h : Heap) : Prop := Arv Z h t k (.byte) (16 : Int32) [(.int (c0).toInt8.toInt32), (.int (c1).toInt8.toInt32), (.int e2), (.int e3), (.int e4), (.int e5), (.int e6), (.int e7), (.int e8), (.int e9), (.int e10), (.int e11), (.int e12), (.int e13), (.int e14), (.int e15)] (.int 0)
def Q_getb0_2 (Z : State) (a t : Addr) (k : ClassId) (c0 c1 e0 e1 e2 e3 e4 e5 e6 e7 e8 e9 e10 e11 e12 e13 e14 e15 : Int32) (h0 : Heap) (h : Heap) : Prop := Arv Z h t k (.byte) (16 : Int32) [(.int (c0).toInt8.toInt32), (.int (c1).toInt8.toInt32), (.int e2), (.int e3), (.int e4), (.int e5), (.int e6), (.int e7), (.int e8), (.int e9), (.int e10), (.int e11), (.int e12), (.int e13), (.int e14), (.int e15)] (.int 0)
theorem c_getb0_2 (G : GH Z a0) (a t : Addr) (k : ClassId) (c0 c1 e0 e1 e2 e3 e4 e5 e6 e7 e8 e9 e10 e11 e12 e13 e14 e15 : Int32) (h0 : Heap) (O0 : Old Z Z.heap.size h0) (p1 : Z.heap.size ≤ t) (p2 : Str Z h0 a [c0, c1]) (p3 : Arv Z h0 t k (.byte) (16 : Int32) [(.int e0), (.int e1), (.int e2), (.int e3), (.int e4), (.int e5), (.int e6), (.int e7), (.int e8), (.int e9), (.int e10), (.int e11), (.int e12), (.int e13), (.int e14), (.int e15)] (.int 0)) : Con false [] l Z (⟨"java/lang/String", "getBytes", "([BIB)V"⟩ : MethodName) jdk_42_method_147_code 4 none [] (rm4 1 0 0 18) #[(.ref a), (.ref t), (.int 0), (.int 0)] h0 [t] (rno (Q_getb0_2 Z a t k c0 c1 e0 e1 e2 e3 e4 e5 e6 e7 e8 e9 e10 e11 e12 e13 e14 e15 h0)) := by
  refine conN G (plainFor_of_name pn4) O0 (fun m => ef18 m a t (0 : Int32) (0 : Int32)) ?_
  intro _ _ _ m_ _ _ _ D hml hret hlk hnm
  refine go_aload_n 1 (D d28_0) rfl rfl rfl ?_
  obtain ⟨t1, k2, E3, F4, F5, A6, B7, L8⟩ := id p2
  have A9 : Arv Z h0 t1 k2 .byte (2 : Int32) [(.int (c0).toInt8.toInt32), (.int (c1).toInt8.toInt32)] (.int 0) := A6
  refine callV0 (cells' := 0) (slots' := 0) (Wd := 0) (argsL := []) (rest := []) (pay_of (a0 := a0) (c_coder l G a h0 O0 F5) (wk G 84) (wk G 4)) E3 (wk G 80) (wk G 81) (wk G 83) (wk G 83) (wk G 82) pd2 (sz hml) all0 sf00 (D d28_1) (k_v 4 rfl ?_)
  rintro _ h10 ⟨rfl, rfl⟩ K11
  refine go_iload_n 5 (D d28_4) rfl rfl ?_
  refine go_icF 8 (D d28_5) rfl (by decide) ?_
  refine go_aload_n 9 (D d28_8) rfl rfl rfl ?_
  refine go_getF 12 (wk G 29) Via.refl F4 (D d28_9) rfl ?_
  refine go_iconst 13 (v := 0) (D d28_12) rfl rfl ?_
  refine go_aload_n 14 (D d28_13) rfl rfl rfl ?_
  refine go_iload_n 15 (D d28_14) rfl rfl ?_
  refine go_iload_n 16 (D d28_15) rfl rfl ?_
  refine go_ishl 17 (z := (0 : Int32)) (D d28_16) rfl (by decide) ?_
  refine go_aload_n 18 (D d28_17) rfl rfl rfl ?_
  refine go_getF 21 (wk G 29) Via.refl F4 (D d28_18) rfl ?_
  refine go_arraylength 22 A9 (D d28_21) rfl ?_
  refine go_acopy 25 (Wd := 0) (vd' := [(.int (c0).toInt8.toInt32), (.int (c1).toInt8.toInt32), (.int e2), (.int e3), (.int e4), (.int e5), (.int e6), (.int e7), (.int e8), (.int e9), (.int e10), (.int e11), (.int e12), (.int e13), (.int e14), (.int e15)]) (wk G 108) (wk G 111) (wk G 109) (wk G 110) rfl A9 p3 rfl (by decide) (by decide) (by decide) (nb rfl) (nb rfl) (nb rfl) p1 rfl (sz hml) (by decide) (by decide) (by decide) (D d28_22) rfl (fun h12 K13 A14 => ?_)
  refine go_goto 43 (D d28_25) (by decide) rfl ?_
  have K15 : Keep h0 h12 [t] := ((Keep.refl h0 [t]).trans K13 (allS (Or.inl (by simp)) all0))
  refine go_return hret hlk (D d28_43) (by decide) (by decide) ⟨rfl, A14⟩ K15
theorem c_puts0_2 (G : GH Z a0) (a b : Addr) (t : Addr) (k : ClassId) (c0 c1 e0 e1 e2 e3 e4 e5 e6 e7 e8 e9 e10 e11 e12 e13 e14 e15 : Int32) (h0 : Heap) (O0 : Old Z Z.heap.size h0) (p1 : Exa Z h0 a "java/lang/StringBuilder") (p2 : Z.heap.size ≤ a) (p3 : Z.heap.size ≤ t) (p4 : a ≠ t) (p5 : Fld Z h0 a "java/lang/AbstractStringBuilder" "value" "[B" (.ref t)) (p6 : Fld Z h0 a "java/lang/AbstractStringBuilder" "coder" "B" (.int 0)) (p7 : Fld Z h0 a "java/lang/AbstractStringBuilder" "count" "I" (.int 0)) (p8 : Str Z h0 b [c0, c1]) (p9 : Arv Z h0 t k (.byte) (16 : Int32) [(.int e0), (.int e1), (.int e2), (.int e3), (.int e4), (.int e5), (.int e6), (.int e7), (.int e8), (.int e9), (.int e10), (.int e11), (.int e12), (.int e13), (.int e14), (.int e15)] (.int 0)) : Con false [] l Z (⟨"java/lang/AbstractStringBuilder", "putStringAt", "(ILjava/lang/String;)V"⟩ : MethodName) jdk_68_method_73_code 3 none [] (rm4 2 0 0 33) #[(.ref a), (.int 0), (.ref b)] h0 [t] (rno (Q_puts0_2 Z a b t k c0 c1 e0 e1 e2 e3 e4 e5 e6 e7 e8 e9 e10 e11 e12 e13 e14 e15 h0)) := by
  refine conN G (plainFor_of_name pn2) O0 (fun m => ef17 m a (0 : Int32) b) ?_
  intro _ _ _ m_ _ _ _ D hml hret hlk hnm
  refine go_aload_n 1 (D d27_0) rfl rfl rfl ?_
  refine go_aload_n 2 (D d27_1) rfl rfl rfl ?_
  obtain ⟨t1, k2, E3, F4, F5, A6, B7, L8⟩ := id p8
  have A9 : Arv Z h0 t1 k2 .byte (2 : Int32) [(.int (c0).toInt8.toInt32), (.int (c1).toInt8.toInt32)] (.int 0) := A6
  refine callP0 (cells' := 0) (slots' := 0) (Wd := 0) (argsL := [(.ref b)]) (rest := []) (pay_of (a0 := a0) (c_inflate l G a b h0 O0 p6 p8.exa F5) (wk G 101) (wk G 57)) p1 (wk G 97) (wk G 98) (sel_priv (wk G 100) (wk G 98) (wk G 99) (by decide)) (wk G 99) (wk G 101) pd15 (sz hml) all0 sf00 (D d27_2) (k_n 5 rfl ?_)
  rintro  h10 rfl K11
  refine go_aload_n 6 (D d27_5) rfl rfl rfl ?_
  refine go_aload_n 7 (D d27_6) rfl rfl rfl ?_
  refine go_getF 10 (wk G 61) Via.refl p5 (D d27_7) rfl ?_
  refine go_iload_n 11 (D d27_10) rfl rfl ?_
  refine go_aload_n 12 (D d27_11) rfl rfl rfl ?_
  refine go_getF 15 (wk G 63) Via.refl p6 (D d27_12) rfl ?_
  refine callV0 (cells' := 0) (slots' := 0) (Wd := 0) (argsL := [(.ref t), (.int 0), (.int 0)]) (rest := []) (pay_of (a0 := a0) (c_getb0_2 l G b t k c0 c1 e0 e1 e2 e3 e4 e5 e6 e7 e8 e9 e10 e11 e12 e13 e14 e15 h0 O0 p3 p8 p9) (wk G 107) (wk G 4)) E3 (wk G 103) (wk G 104) (wk G 106) (wk G 106) (wk G 105) pd16 (sz hml) (allS p3 all0) (fun _ hal => (sfS safe_nil sf0)) (D d27_15) (k_n 18 rfl ?_)
  rintro  h12 f14 K13
  have K15 : Keep h0 h12 [t] := ((Keep.refl h0 [t]).trans K13 (allS (Or.inl (by simp)) all0))
  refine go_return hret hlk (D d27_18) (by decide) (by decide) ⟨rfl, f14⟩ K15
theorem c_asbapp0_2 (G : GH Z a0) (a b : Addr) (t : Addr) (k : ClassId) (c0 c1 e0 e1 e2 e3 e4 e5 e6 e7 e8 e9 e10 e11 e12 e13 e14 e15 : Int32) (h0 : Heap) (O0 : Old Z Z.heap.size h0) (p1 : Exa Z h0 a "java/lang/StringBuilder") (p2 : Z.heap.size ≤ a) (p3 : Z.heap.size ≤ t) (p4 : a ≠ t) (p5 : Fld Z h0 a "java/lang/AbstractStringBuilder" "value" "[B" (.ref t)) (p6 : Fld Z h0 a "java/lang/AbstractStringBuilder" "coder" "B" (.int 0)) (p7 : Fld Z h0 a "java/lang/AbstractStringBuilder" "count" "I" (.int 0)) (p8 : Str Z h0 b [c0, c1]) (p9 : Arv Z h0 t k (.byte) (16 : Int32) [(.int e0), (.int e1), (.int e2), (.int e3), (.int e4), (.int e5), (.int e6), (.int e7), (.int e8), (.int e9), (.int e10), (.int e11), (.int e12), (.int e13), (.int e14), (.int e15)] (.int 0)) : Con false [] l Z (⟨"java/lang/AbstractStringBuilder", "append", "(Ljava/lang/String;)Ljava/lang/AbstractStringBuilder;"⟩ : MethodName) jdk_68_method_22_code 3 (some (.object "java/lang/AbstractStringBuilder")) [] (rm4 3 0 0 47) #[(.ref a), (.ref b)] h0 [a, t] (rvl (Q_asbapp0_2 Z a b t k c0 c1 e0 e1 e2 e3 e4 e5 e6 e7 e8 e9 e10 e11 e12 e13 e14 e15 h0)) := by
  refine conN G (plainFor_of_name pn2) O0 (fun m => ef16 m a b) ?_
  intro _ _ _ m_ _ _ _ D hml hret hlk hnm
  refine go_aload_n 1 (D d26_0) rfl rfl rfl ?_
  refine go_nnT 9 (D d26_1) (by decide) rfl ?_
  refine go_aload_n 10 (D d26_9) rfl rfl rfl ?_
  refine callV0 (cells' := 0) (slots' := 0) (Wd := 0) (argsL := []) (rest := []) (pay_len G O0 (n := (2 : Int32)) p8 rfl (by decide) (by decide)) p8.exa (wk G 75) (wk G 76) (wk G 78) (wk G 78) (wk G 77) pd3 (sz hml) all0 sf00 (D d26_10) (k_v 13 rfl ?_)
  rintro _ _ ⟨rfl, rfl⟩ -
  refine go_istore_n 14 (ls' := #[vr a, vr b, vi 2]) (D d26_13) rfl rfl ?_
  refine go_aload_n 15 (D d26_14) rfl rfl rfl ?_
  refine go_aload_n 16 (D d26_15) rfl rfl rfl ?_
  refine go_getF 19 (wk G 85) Via.refl p7 (D d26_16) rfl ?_
  refine go_iload_n 20 (D d26_19) rfl rfl ?_
  refine go_iadd 21 (z := (2 : Int32)) (D d26_20) rfl (by decide) ?_
  refine callP0 (cells' := 0) (slots' := 0) (Wd := 0) (argsL := [(.int 2)]) (rest := []) (pay_of (a0 := a0) (c_ensure l G a (2 : Int32) t k [(.int e0), (.int e1), (.int e2), (.int e3), (.int e4), (.int e5), (.int e6), (.int e7), (.int e8), (.int e9), (.int e10), (.int e11), (.int e12), (.int e13), (.int e14), (.int e15)] h0 O0 p5 p6 p9 (by decide)) (wk G 91) (wk G 57)) p1 (wk G 87) (wk G 88) (sel_priv (wk G 90) (wk G 88) (wk G 89) (by decide)) (wk G 89) (wk G 91) pd1 (sz hml) all0 sf00 (D d26_21) (k_n 24 rfl ?_)
  rintro  h1 rfl K2
  refine go_aload_n 25 (D d26_24) rfl rfl rfl ?_
  refine go_aload_n 26 (D d26_25) rfl rfl rfl ?_
  refine go_getF 29 (wk G 85) Via.refl p7 (D d26_26) rfl ?_
  refine go_aload_n 30 (D d26_29) rfl rfl rfl ?_
  refine callP0 (cells' := 0) (slots' := 0) (Wd := 0) (argsL := [(.int 0), (.ref b)]) (rest := []) (pay_of (a0 := a0) (c_puts0_2 l G a b t k c0 c1 e0 e1 e2 e3 e4 e5 e6 e7 e8 e9 e10 e11 e12 e13 e14 e15 h0 O0 p1 p2 p3 p4 p5 p6 p7 p8 p9) (wk G 96) (wk G 57)) p1 (wk G 92) (wk G 93) (sel_priv (wk G 95) (wk G 93) (wk G 94) (by decide)) (wk G 94) (wk G 96) pd17 (sz hml) (allS p3 all0) (fun _ hal => (sfS safe_nil sf0)) (D d26_30) (k_n 33 rfl ?_)
  rintro  h3 f5 K4
  refine go_aload_n 34 (D d26_33) rfl rfl rfl ?_
  refine go_dup 35 (D d26_34) rfl rfl ?_
  have F6 := (p7.keep K4 (ninS p4 nin0))
  refine go_getF 38 (wk G 85) Via.refl F6 (D d26_35) rfl ?_
  refine go_iload_n 39 (D d26_38) rfl rfl ?_
  refine go_iadd 40 (z := (2 : Int32)) (D d26_39) rfl (by decide) ?_
  have E7 := (p1.keep K4)
  refine go_putF 43 (wk G 85) Via.refl F6 E7 (Or.inl (wk G 86)) (wk G 48) (ty := .int) (v' := (.int 2)) (by decide) rfl rfl p2 (Or.inr rfl) (D d26_40) rfl (fun h8 W9 => ?_)
  have F10 := Fld.same W9 F6
  refine go_aload_n 44 (D d26_43) rfl rfl rfl ?_
  have K11 : Keep h0 h3 [a, t] := ((Keep.refl h0 [a, t]).trans K4 (allS (Or.inl (by simp)) all0))
  have K12 : Keep h0 h8 [a, t] := (K11.wr W9 (Or.inl (by simp)))
  have F13 := ((p5.keep K4 (ninS p4 nin0)).other W9 (Or.inr (slot_ne (t := (.array .byte)) (t' := .int) (Or.inl (wk G 62)) (Or.inl (wk G 86)) (by decide) (by decide) (by decide))))
  have F14 := ((p6.keep K4 (ninS p4 nin0)).other W9 (Or.inr (slot_ne (t := .byte) (t' := .int) (Or.inl (wk G 64)) (Or.inl (wk G 86)) (by decide) (by decide) (by decide))))
  have A15 := (f5.other W9 (Ne.symm p4))
  refine go_areturn hret hlk rfl rfl (D d26_44) (by decide) (by decide) ⟨_, rfl, ⟨rfl, F13, F14, F10, A15⟩⟩ K12
theorem c_sbapp0_2 (G : GH Z a0) (a b : Addr) (t : Addr) (k : ClassId) (c0 c1 e0 e1 e2 e3 e4 e5 e6 e7 e8 e9 e10 e11 e12 e13 e14 e15 : Int32) (h0 : Heap) (O0 : Old Z Z.heap.size h0) (p1 : Exa Z h0 a "java/lang/StringBuilder") (p2 : Z.heap.size ≤ a) (p3 : Z.heap.size ≤ t) (p4 : a ≠ t) (p5 : Fld Z h0 a "java/lang/AbstractStringBuilder" "value" "[B" (.ref t)) (p6 : Fld Z h0 a "java/lang/AbstractStringBuilder" "coder" "B" (.int 0)) (p7 : Fld Z h0 a "java/lang/AbstractStringBuilder" "count" "I" (.int 0)) (p8 : Str Z h0 b [c0, c1]) (p9 : Arv Z h0 t k (.byte) (16 : Int32) [(.int e0), (.int e1), (.int e2), (.int e3), (.int e4), (.int e5), (.int e6), (.int e7), (.int e8), (.int e9), (.int e10), (.int e11), (.int e12), (.int e13), (.int e14), (.int e15)] (.int 0)) : Con false [] l Z (⟨"java/lang/StringBuilder", "append", "(Ljava/lang/String;)Ljava/lang/StringBuilder;"⟩ : MethodName) jdk_67_method_7_code 2 (some (.object "java/lang/StringBuilder")) [] (rm4 4 0 0 61) #[(.ref a), (.ref b)] h0 [a, t] (rvl (Q_sbapp0_2 Z a b t k c0 c1 e0 e1 e2 e3 e4 e5 e6 e7 e8 e9 e10 e11 e12 e13 e14 e15 h0)) := by
  refine conN G (plainFor_of_name pn3) O0 (fun m => ef6 m a b) ?_
  intro _ _ _ m_ _ _ _ D hml hret hlk hnm
  refine go_aload_n 1 (D d25_0) rfl rfl rfl ?_
  refine go_aload_n 2 (D d25_1) rfl rfl rfl ?_
  refine callU0 (cells' := 0) (slots' := 0) (Wd := 0) (argsL := [(.ref b)]) (rest := []) (pay_of (a0 := a0) (c_asbapp0_2 l G a b t k c0 c1 e0 e1 e2 e3 e4 e5 e6 e7 e8 e9 e10 e11 e12 e13 e14 e15 h0 O0 p1 p2 p3 p4 p5 p6 p7 p8 p9) (wk G 74) (wk G 57)) (Ins.self p1) (wk G 70) (same_self (z := (⟨"java/lang/AbstractStringBuilder", "ensureCapacityInternal", "(I)V"⟩ : MethodName)) rfl (wk G 90) (wk G 71) (by decide)) (wk G 71) (wk G 72) (wk G 74) pd18 (sz hml) (allS p2 (allS p3 all0)) (fun _ hal => (sfS safe_nil (sfS safe_nil sf0))) (D d25_2) (k_v 5 rfl ?_)
  rintro _ h1 ⟨rfl, f3, f4, f5, f6⟩ K2
  refine go_pop 6 (D d25_5) rfl rfl ?_
  refine go_aload_n 7 (D d25_6) rfl rfl rfl ?_
  have K7 : Keep h0 h1 [a, t] := ((Keep.refl h0 [a, t]).trans K2 (allS (Or.inl (by simp)) (allS (Or.inl (by simp)) all0)))
  refine go_areturn hret hlk rfl rfl (D d25_7) (by decide) (by decide) ⟨_, rfl, ⟨rfl, f3, f4, f5, f6⟩⟩ K7
def Q_sbapp2_1 (Z : State) (a b t : Addr) (k : ClassId) (c0 e0 e1 e2 e3 e4 e5 e6 e7 e8 e9 e10 e11 e12 e13 e14 e15 : Int32) (h0 : Heap) (xv : Value) (h : Heap) : Prop := (.ref a) = xv ∧ Fld Z h a "java/lang/AbstractStringBuilder" "value" "[B" (.ref t) ∧ Fld Z h a "java/lang/AbstractStringBuilder" "coder" "B" (.int 0) ∧ Fld Z h a "java/lang/AbstractStringBuilder" "count" "I" (.int 3) ∧ Arv Z h t k (.byte) (16 : Int32) [(.int e0), (.int e1), (.int (c0).toInt8.toInt32), (.int e3), (.int e4), (.int e5), (.int e6), (.int e7), (.int e8), (.int e9), (.int e10), (.int e11), (.int e12), (.int e13), (.int e14), (.int e15)] (.int 0)
def Q_asbapp2_1 (Z : State) (a b t : Addr) (k : ClassId) (c0 e0 e1 e2 e3 e4 e5 e6 e7 e8 e9 e10 e11 e12 e13 e14 e15 : Int32) (h0 : Heap) (xv : Value) (h : Heap) : Prop := (.ref a) = xv ∧ Fld Z h a "java/lang/AbstractStringBuilder" "value" "[B" (.ref t) ∧ Fld Z h a "java/lang/AbstractStringBuilder" "coder" "B" (.int 0) ∧ Fld Z h a "java/lang/AbstractStringBuilder" "count" "I" (.int 3) ∧ Arv Z h t k (.byte) (16 : Int32) [(.int e0), (.int e1), (.int (c0).toInt8.toInt32), (.int e3), (.int e4), (.int e5), (.int e6), (.int e7), (.int e8), (.int e9), (.int e10), (.int e11), (.int e12), (.int e13), (.int e14), (.int e15)] (.int 0)
def Q_puts2_1 (Z : State) (a b t : Addr) (k : ClassId) (c0 e0 e1 e2 e3 e4 e5 e6 e7 e8 e9 e10 e11 e12 e13 e14 e15 : Int32) (h0 : Heap) (h : Heap) : Prop := Arv Z h t k (.byte) (16 : Int32) [(.int e0), (.int e1), (.int (c0).toInt8.toInt32), (.int e3), (.int e4), (.int e5), (.int e6), (.int e7), (.int e8), (.int e9), (.int e10), (.int e11), (.int e12), (.int e13), (.int e14), (.int e15)] (.int 0)
def Q_getb2_1 (Z : State) (a t : Addr) (k : ClassId) (c0 e0 e1 e2 e3 e4 e5 e6 e7 e8 e9 e10 e11 e12 e13 e14 e15 : Int32) (h0 : Heap) (h : Heap) : Prop := Arv Z h t k (.byte) (16 : Int32) [(.int e0), (.int e1), (.int (c0).toInt8.toInt32), (.int e3), (.int e4), (.int e5), (.int e6), (.int e7), (.int e8), (.int e9), (.int e10), (.int e11), (.int e12), (.int e13), (.int e14), (.int e15)] (.int 0)
theorem c_getb2_1 (G : GH Z a0) (a t : Addr) (k : ClassId) (c0 e0 e1 e2 e3 e4 e5 e6 e7 e8 e9 e10 e11 e12 e13 e14 e15 : Int32) (h0 : Heap) (O0 : Old Z Z.heap.size h0) (p1 : Z.heap.size ≤ t) (p2 : Str Z h0 a [c0]) (p3 : Arv Z h0 t k (.byte) (16 : Int32) [(.int e0), (.int e1), (.int e2), (.int e3), (.int e4), (.int e5), (.int e6), (.int e7), (.int e8), (.int e9), (.int e10), (.int e11), (.int e12), (.int e13), (.int e14), (.int e15)] (.int 0)) : Con false [] l Z (⟨"java/lang/String", "getBytes", "([BIB)V"⟩ : MethodName) jdk_42_method_147_code 4 none [] (rm4 1 0 0 18) #[(.ref a), (.ref t), (.int 2), (.int 0)] h0 [t] (rno (Q_getb2_1 Z a t k c0 e0 e1 e2 e3 e4 e5 e6 e7 e8 e9 e10 e11 e12 e13 e14 e15 h0)) := by
  refine conN G (plainFor_of_name pn4) O0 (fun m => ef18 m a t (2 : Int32) (0 : Int32)) ?_
  intro _ _ _ m_ _ _ _ D hml hret hlk hnm
  refine go_aload_n 1 (D d28_0) rfl rfl rfl ?_
  obtain ⟨t1, k2, E3, F4, F5, A6, B7, L8⟩ := id p2
  have A9 : Arv Z h0 t1 k2 .byte (1 : Int32) [(.int (c0).toInt8.toInt32)] (.int 0) := A6
  refine callV0 (cells' := 0) (slots' := 0) (Wd := 0) (argsL := []) (rest := []) (pay_of (a0 := a0) (c_coder l G a h0 O0 F5) (wk G 84) (wk G 4)) E3 (wk G 80) (wk G 81) (wk G 83) (wk G 83) (wk G 82) pd2 (sz hml) all0 sf00 (D d28_1) (k_v 4 rfl ?_)
  rintro _ h10 ⟨rfl, rfl⟩ K11
  refine go_iload_n 5 (D d28_4) rfl rfl ?_
  refine go_icF 8 (D d28_5) rfl (by decide) ?_
  refine go_aload_n 9 (D d28_8) rfl rfl rfl ?_
  refine go_getF 12 (wk G 29) Via.refl F4 (D d28_9) rfl ?_
  refine go_iconst 13 (v := 0) (D d28_12) rfl rfl ?_
  refine go_aload_n 14 (D d28_13) rfl rfl rfl ?_
  refine go_iload_n 15 (D d28_14) rfl rfl ?_
  refine go_iload_n 16 (D d28_15) rfl rfl ?_
  refine go_ishl 17 (z := (2 : Int32)) (D d28_16) rfl (by decide) ?_
  refine go_aload_n 18 (D d28_17) rfl rfl rfl ?_
  refine go_getF 21 (wk G 29) Via.refl F4 (D d28_18) rfl ?_
  refine go_arraylength 22 A9 (D d28_21) rfl ?_
  refine go_acopy 25 (Wd := 0) (vd' := [(.int e0), (.int e1), (.int (c0).toInt8.toInt32), (.int e3), (.int e4), (.int e5), (.int e6), (.int e7), (.int e8), (.int e9), (.int e10), (.int e11), (.int e12), (.int e13), (.int e14), (.int e15)]) (wk G 108) (wk G 111) (wk G 109) (wk G 110) rfl A9 p3 rfl (by decide) (by decide) (by decide) (nb rfl) (nb rfl) (nb rfl) p1 rfl (sz hml) (by decide) (by decide) (by decide) (D d28_22) rfl (fun h12 K13 A14 => ?_)
  refine go_goto 43 (D d28_25) (by decide) rfl ?_
  have K15 : Keep h0 h12 [t] := ((Keep.refl h0 [t]).trans K13 (allS (Or.inl (by simp)) all0))
  refine go_return hret hlk (D d28_43) (by decide) (by decide) ⟨rfl, A14⟩ K15
theorem c_puts2_1 (G : GH Z a0) (a b : Addr) (t : Addr) (k : ClassId) (c0 e0 e1 e2 e3 e4 e5 e6 e7 e8 e9 e10 e11 e12 e13 e14 e15 : Int32) (h0 : Heap) (O0 : Old Z Z.heap.size h0) (p1 : Exa Z h0 a "java/lang/StringBuilder") (p2 : Z.heap.size ≤ a) (p3 : Z.heap.size ≤ t) (p4 : a ≠ t) (p5 : Fld Z h0 a "java/lang/AbstractStringBuilder" "value" "[B" (.ref t)) (p6 : Fld Z h0 a "java/lang/AbstractStringBuilder" "coder" "B" (.int 0)) (p7 : Fld Z h0 a "java/lang/AbstractStringBuilder" "count" "I" (.int 2)) (p8 : Str Z h0 b [c0]) (p9 : Arv Z h0 t k (.byte) (16 : Int32) [(.int e0), (.int e1), (.int e2), (.int e3), (.int e4), (.int e5), (.int e6), (.int e7), (.int e8), (.int e9), (.int e10), (.int e11), (.int e12), (.int e13), (.int e14), (.int e15)] (.int 0)) : Con false [] l Z (⟨"java/lang/AbstractStringBuilder", "putStringAt", "(ILjava/lang/String;)V"⟩ : MethodName) jdk_68_method_73_code 3 none [] (rm4 2 0 0 33) #[(.ref a), (.int 2), (.ref b)] h0 [t] (rno (Q_puts2_1 Z a b t k c0 e0 e1 e2 e3 e4 e5 e6 e7 e8 e9 e10 e11 e12 e13 e14 e15 h0)) := by
  refine conN G (plainFor_of_name pn2) O0 (fun m => ef17 m a (2 : Int32) b) ?_
  intro _ _ _ m_ _ _ _ D hml hret hlk hnm
  refine go_aload_n 1 (D d27_0) rfl rfl rfl ?_
  refine go_aload_n 2 (D d27_1) rfl rfl rfl ?_
  obtain ⟨t1, k2, E3, F4, F5, A6, B7, L8⟩ := id p8
  have A9 : Arv Z h0 t1 k2 .byte (1 : Int32) [(.int (c0).toInt8.toInt32)] (.int 0) := A6
  refine callP0 (cells' := 0) (slots' := 0) (Wd := 0) (argsL := [(.ref b)]) (rest := []) (pay_of (a0 := a0) (c_inflate l G a b h0 O0 p6 p8.exa F5) (wk G 101) (wk G 57)) p1 (wk G 97) (wk G 98) (sel_priv (wk G 100) (wk G 98) (wk G 99) (by decide)) (wk G 99) (wk G 101) pd15 (sz hml) all0 sf00 (D d27_2) (k_n 5 rfl ?_)
  rintro  h10 rfl K11
  refine go_aload_n 6 (D d27_5) rfl rfl rfl ?_
  refine go_aload_n 7 (D d27_6) rfl rfl rfl ?_
  refine go_getF 10 (wk G 61) Via.refl p5 (D d27_7) rfl ?_
  refine go_iload_n 11 (D d27_10) rfl rfl ?_
  refine go_aload_n 12 (D d27_11) rfl rfl rfl ?_
  refine go_getF 15 (wk G 63) Via.refl p6 (D d27_12) rfl ?_
  refine callV0 (cells' := 0) (slots' := 0) (Wd := 0) (argsL := [(.ref t), (.int 2), (.int 0)]) (rest := []) (pay_of (a0 := a0) (c_getb2_1 l G b t k c0 e0 e1 e2 e3 e4 e5 e6 e7 e8 e9 e10 e11 e12 e13 e14 e15 h0 O0 p3 p8 p9) (wk G 107) (wk G 4)) E3 (wk G 103) (wk G 104) (wk G 106) (wk G 106) (wk G 105) pd16 (sz hml) (allS p3 all0) (fun _ hal => (sfS safe_nil sf0)) (D d27_15) (k_n 18 rfl ?_)
  rintro  h12 f14 K13
  have K15 : Keep h0 h12 [t] := ((Keep.refl h0 [t]).trans K13 (allS (Or.inl (by simp)) all0))
  refine go_return hret hlk (D d27_18) (by decide) (by decide) ⟨rfl, f14⟩ K15
theorem c_asbapp2_1 (G : GH Z a0) (a b : Addr) (t : Addr) (k : ClassId) (c0 e0 e1 e2 e3 e4 e5 e6 e7 e8 e9 e10 e11 e12 e13 e14 e15 : Int32) (h0 : Heap) (O0 : Old Z Z.heap.size h0) (p1 : Exa Z h0 a "java/lang/StringBuilder") (p2 : Z.heap.size ≤ a) (p3 : Z.heap.size ≤ t) (p4 : a ≠ t) (p5 : Fld Z h0 a "java/lang/AbstractStringBuilder" "value" "[B" (.ref t)) (p6 : Fld Z h0 a "java/lang/AbstractStringBuilder" "coder" "B" (.int 0)) (p7 : Fld Z h0 a "java/lang/AbstractStringBuilder" "count" "I" (.int 2)) (p8 : Str Z h0 b [c0]) (p9 : Arv Z h0 t k (.byte) (16 : Int32) [(.int e0), (.int e1), (.int e2), (.int e3), (.int e4), (.int e5), (.int e6), (.int e7), (.int e8), (.int e9), (.int e10), (.int e11), (.int e12), (.int e13), (.int e14), (.int e15)] (.int 0)) : Con false [] l Z (⟨"java/lang/AbstractStringBuilder", "append", "(Ljava/lang/String;)Ljava/lang/AbstractStringBuilder;"⟩ : MethodName) jdk_68_method_22_code 3 (some (.object "java/lang/AbstractStringBuilder")) [] (rm4 3 0 0 47) #[(.ref a), (.ref b)] h0 [a, t] (rvl (Q_asbapp2_1 Z a b t k c0 e0 e1 e2 e3 e4 e5 e6 e7 e8 e9 e10 e11 e12 e13 e14 e15 h0)) := by
  refine conN G (plainFor_of_name pn2) O0 (fun m => ef16 m a b) ?_
  intro _ _ _ m_ _ _ _ D hml hret hlk hnm
  refine go_aload_n 1 (D d26_0) rfl rfl rfl ?_
  refine go_nnT 9 (D d26_1) (by decide) rfl ?_
  refine go_aload_n 10 (D d26_9) rfl rfl rfl ?_
  refine callV0 (cells' := 0) (slots' := 0) (Wd := 0) (argsL := []) (rest := []) (pay_len G O0 (n := (1 : Int32)) p8 rfl (by decide) (by decide)) p8.exa (wk G 75) (wk G 76) (wk G 78) (wk G 78) (wk G 77) pd3 (sz hml) all0 sf00 (D d26_10) (k_v 13 rfl ?_)
  rintro _ _ ⟨rfl, rfl⟩ -
  refine go_istore_n 14 (ls' := #[vr a, vr b, vi 1]) (D d26_13) rfl rfl ?_
  refine go_aload_n 15 (D d26_14) rfl rfl rfl ?_
  refine go_aload_n 16 (D d26_15) rfl rfl rfl ?_
  refine go_getF 19 (wk G 85) Via.refl p7 (D d26_16) rfl ?_
  refine go_iload_n 20 (D d26_19) rfl rfl ?_
  refine go_iadd 21 (z := (3 : Int32)) (D d26_20) rfl (by decide) ?_
  refine callP0 (cells' := 0) (slots' := 0) (Wd := 0) (argsL := [(.int 3)]) (rest := []) (pay_of (a0 := a0) (c_ensure l G a (3 : Int32) t k [(.int e0), (.int e1), (.int e2), (.int e3), (.int e4), (.int e5), (.int e6), (.int e7), (.int e8), (.int e9), (.int e10), (.int e11), (.int e12), (.int e13), (.int e14), (.int e15)] h0 O0 p5 p6 p9 (by decide)) (wk G 91) (wk G 57)) p1 (wk G 87) (wk G 88) (sel_priv (wk G 90) (wk G 88) (wk G 89) (by decide)) (wk G 89) (wk G 91) pd1 (sz hml) all0 sf00 (D d26_21) (k_n 24 rfl ?_)
  rintro  h1 rfl K2
  refine go_aload_n 25 (D d26_24) rfl rfl rfl ?_
  refine go_aload_n 26 (D d26_25) rfl rfl rfl ?_
  refine go_getF 29 (wk G 85) Via.refl p7 (D d26_26) rfl ?_
  refine go_aload_n 30 (D d26_29) rfl rfl rfl ?_
  refine callP0 (cells' := 0) (slots' := 0) (Wd := 0) (argsL := [(.int 2), (.ref b)]) (rest := []) (pay_of (a0 := a0) (c_puts2_1 l G a b t k c0 e0 e1 e2 e3 e4 e5 e6 e7 e8 e9 e10 e11 e12 e13 e14 e15 h0 O0 p1 p2 p3 p4 p5 p6 p7 p8 p9) (wk G 96) (wk G 57)) p1 (wk G 92) (wk G 93) (sel_priv (wk G 95) (wk G 93) (wk G 94) (by decide)) (wk G 94) (wk G 96) pd17 (sz hml) (allS p3 all0) (fun _ hal => (sfS safe_nil sf0)) (D d26_30) (k_n 33 rfl ?_)
  rintro  h3 f5 K4
  refine go_aload_n 34 (D d26_33) rfl rfl rfl ?_
  refine go_dup 35 (D d26_34) rfl rfl ?_
  have F6 := (p7.keep K4 (ninS p4 nin0))
  refine go_getF 38 (wk G 85) Via.refl F6 (D d26_35) rfl ?_
  refine go_iload_n 39 (D d26_38) rfl rfl ?_
  refine go_iadd 40 (z := (3 : Int32)) (D d26_39) rfl (by decide) ?_
  have E7 := (p1.keep K4)
  refine go_putF 43 (wk G 85) Via.refl F6 E7 (Or.inl (wk G 86)) (wk G 48) (ty := .int) (v' := (.int 3)) (by decide) rfl rfl p2 (Or.inr rfl) (D d26_40) rfl (fun h8 W9 => ?_)
  have F10 := Fld.same W9 F6
  refine go_aload_n 44 (D d26_43) rfl rfl rfl ?_
  have K11 : Keep h0 h3 [a, t] := ((Keep.refl h0 [a, t]).trans K4 (allS (Or.inl (by simp)) all0))
  have K12 : Keep h0 h8 [a, t] := (K11.wr W9 (Or.inl (by simp)))
  have F13 := ((p5.keep K4 (ninS p4 nin0)).other W9 (Or.inr (slot_ne (t := (.array .byte)) (t' := .int) (Or.inl (wk G 62)) (Or.inl (wk G 86)) (by decide) (by decide) (by decide))))
  have F14 := ((p6.keep K4 (ninS p4 nin0)).other W9 (Or.inr (slot_ne (t := .byte) (t' := .int) (Or.inl (wk G 64)) (Or.inl (wk G 86)) (by decide) (by decide) (by decide))))
  have A15 := (f5.other W9 (Ne.symm p4))
  refine go_areturn hret hlk rfl rfl (D d26_44) (by decide) (by decide) ⟨_, rfl, ⟨rfl, F13, F14, F10, A15⟩⟩ K12
theorem c_sbapp2_1 (G : GH Z a0) (a b : Addr) (t : Addr) (k : ClassId) (c0 e0 e1 e2 e3 e4 e5 e6 e7 e8 e9 e10 e11 e12 e13 e14 e15 : Int32) (h0 : Heap) (O0 : Old Z Z.heap.size h0) (p1 : Exa Z h0 a "java/lang/StringBuilder") (p2 : Z.heap.size ≤ a) (p3 : Z.heap.size ≤ t) (p4 : a ≠ t) (p5 : Fld Z h0 a "java/lang/AbstractStringBuilder" "value" "[B" (.ref t)) (p6 : Fld Z h0 a "java/lang/AbstractStringBuilder" "coder" "B" (.int 0)) (p7 : Fld Z h0 a "java/lang/AbstractStringBuilder" "count" "I" (.int 2)) (p8 : Str Z h0 b [c0]) (p9 : Arv Z h0 t k (.byte) (16 : Int32) [(.int e0), (.int e1), (.int e2), (.int e3), (.int e4), (.int e5), (.int e6), (.int e7), (.int e8), (.int e9), (.int e10), (.int e11), (.int e12), (.int e13), (.int e14), (.int e15)] (.int 0)) : Con false [] l Z (⟨"java/lang/StringBuilder", "append", "(Ljava/lang/String;)Ljava/lang/StringBuilder;"⟩ : MethodName) jdk_67_method_7_code 2 (some (.object "java/lang/StringBuilder")) [] (rm4 4 0 0 61) #[(.ref a), (.ref b)] h0 [a, t] (rvl (Q_sbapp2_1 Z a b t k c0 e0 e1 e2 e3 e4 e5 e6 e7 e8 e9 e10 e11 e12 e13 e14 e15 h0)) := by
  refine conN G (plainFor_of_name pn3) O0 (fun m => ef6 m a b) ?_
  intro _ _ _ m_ _ _ _ D hml hret hlk hnm
  refine go_aload_n 1 (D d25_0) rfl rfl rfl ?_
  refine go_aload_n 2 (D d25_1) rfl rfl rfl ?_
  refine callU0 (cells' := 0) (slots' := 0) (Wd := 0) (argsL := [(.ref b)]) (rest := []) (pay_of (a0 := a0) (c_asbapp2_1 l G a b t k c0 e0 e1 e2 e3 e4 e5 e6 e7 e8 e9 e10 e11 e12 e13 e14 e15 h0 O0 p1 p2 p3 p4 p5 p6 p7 p8 p9) (wk G 74) (wk G 57)) (Ins.self p1) (wk G 70) (same_self (z := (⟨"java/lang/AbstractStringBuilder", "ensureCapacityInternal", "(I)V"⟩ : MethodName)) rfl (wk G 90) (wk G 71) (by decide)) (wk G 71) (wk G 72) (wk G 74) pd18 (sz hml) (allS p2 (allS p3 all0)) (fun _ hal => (sfS safe_nil (sfS safe_nil sf0))) (D d25_2) (k_v 5 rfl ?_)
  rintro _ h1 ⟨rfl, f3, f4, f5, f6⟩ K2
  refine go_pop 6 (D d25_5) rfl rfl ?_
  refine go_aload_n 7 (D d25_6) rfl rfl rfl ?_
  have K7 : Keep h0 h1 [a, t] := ((Keep.refl h0 [a, t]).trans K2 (allS (Or.inl (by simp)) (allS (Or.inl (by simp)) all0)))
  refine go_areturn hret hlk rfl rfl (D d25_7) (by decide) (by decide) ⟨_, rfl, ⟨rfl, f3, f4, f5, f6⟩⟩ K7
def Q_sbappi3 (Z : State) (a : Addr) (p : Int32) (t : Addr) (k : ClassId) (L : List Value) (h0 : Heap) (xv : Value) (h : Heap) : Prop := (.ref a) = xv ∧ Fld Z h a "java/lang/AbstractStringBuilder" "value" "[B" (.ref t) ∧ Fld Z h a "java/lang/AbstractStringBuilder" "coder" "B" (.int 0) ∧ Fld Z h a "java/lang/AbstractStringBuilder" "count" "I" (.int (Int32.ofNat (3 + (rep p).length))) ∧ Arv Z h t k (.byte) (16 : Int32) (tk L 3 ((rep p).map Value.int) (3 + (rep p).length)) (.int 0)
def Q_asbappi3 (Z : State) (a : Addr) (p : Int32) (t : Addr) (k : ClassId) (L : List Value) (h0 : Heap) (xv : Value) (h : Heap) : Prop := (.ref a) = xv ∧ Fld Z h a "java/lang/AbstractStringBuilder" "value" "[B" (.ref t) ∧ Fld Z h a "java/lang/AbstractStringBuilder" "coder" "B" (.int 0) ∧ Fld Z h a "java/lang/AbstractStringBuilder" "count" "I" (.int (Int32.ofNat (3 + (rep p).length))) ∧ Arv Z h t k (.byte) (16 : Int32) (tk L 3 ((rep p).map Value.int) (3 + (rep p).length)) (.int 0)
theorem c_asbappi3 (G : GH Z a0) (a : Addr) (p : Int32) (t : Addr) (k : ClassId) (L : List Value) (h0 : Heap) (O0 : Old Z Z.heap.size h0) (p1 : Exa Z h0 a "java/lang/StringBuilder") (p2 : Z.heap.size ≤ a) (p3 : Z.heap.size ≤ t) (p4 : a ≠ t) (p5 : Fld Z h0 a "java/lang/AbstractStringBuilder" "value" "[B" (.ref t)) (p6 : Fld Z h0 a "java/lang/AbstractStringBuilder" "coder" "B" (.int 0)) (p7 : Fld Z h0 a "java/lang/AbstractStringBuilder" "count" "I" (.int 3)) (p8 : Arv Z h0 t k (.byte) (16 : Int32) L (.int 0)) (p9 : L.length = 16) : Con false [] l Z (⟨"java/lang/AbstractStringBuilder", "append", "(I)Ljava/lang/AbstractStringBuilder;"⟩ : MethodName) jdk_68_method_32_code 4 (some (.object "java/lang/AbstractStringBuilder")) [] (rm4 1 0 0 18) #[(.ref a), (.int p)] h0 [a, t] (rvl (Q_asbappi3 Z a p t k L h0)) := by
  refine conN G (plainFor_of_name pn2) O0 (fun m => ef19 m a p) ?_
  intro _ _ _ m_ _ _ _ D hml hret hlk hnm
  refine go_aload_n 1 (D d30_0) rfl rfl rfl ?_
  refine go_getF 4 (wk G 85) Via.refl p7 (D d30_1) rfl ?_
  refine go_istore_n 5 (ls' := #[vr a, vi p, vi 3, un]) (D d30_4) rfl rfl ?_
  refine go_iload_n 6 (D d30_5) rfl rfl ?_
  refine go_iload_n 7 (D d30_6) rfl rfl ?_
  refine callS0 (cells' := 0) (slots' := 0) (Wd := 1) (argsL := [(.int p)]) (rest := [(.int 3)]) (pay_of (a0 := a0) (c_strsz l G p h0 O0 ) (wk G 127) (wk G 126)) (wk G 124) (wk G 125) (wk G 126) (wk G 127) pd20 (sz hml) all0 sf00 (D d30_7) (k_v 10 rfl ?_)
  rintro _ h1 ⟨r3, rfl, rfl, f4⟩ K2
  subst f4
  refine go_iadd 11 (z := (Int32.ofNat (3 + (rep p).length))) (D d30_10) rfl (ofn_add (n := 3) (k := (rep p).length) (by have := rep_b p; omega)) ?_
  refine go_istore_n 12 (ls' := #[vr a, vi p, vi 3, vi (Int32.ofNat (3 + (rep p).length))]) (D d30_11) rfl rfl ?_
  refine go_aload_n 13 (D d30_12) rfl rfl rfl ?_
  refine go_iload_n 14 (D d30_13) rfl rfl ?_
  refine callP0 (cells' := 0) (slots' := 0) (Wd := 0) (argsL := [(.int (Int32.ofNat (3 + (rep p).length)))]) (rest := []) (pay_of (a0 := a0) (c_ensure l G a (Int32.ofNat (3 + (rep p).length)) t k L h0 O0 p5 p6 p8 (ens_ok (by have := rep_b p; omega))) (wk G 91) (wk G 57)) p1 (wk G 87) (wk G 88) (sel_priv (wk G 90) (wk G 88) (wk G 89) (by decide)) (wk G 89) (wk G 91) pd1 (sz hml) all0 sf00 (D d30_14) (k_n 17 rfl ?_)
  rintro  h5 rfl K6
  refine go_aload_n 18 (D d30_17) rfl rfl rfl ?_
  refine callV0 (cells' := 0) (slots' := 0) (Wd := 0) (argsL := []) (rest := []) (pay_of (a0 := a0) (c_asblatin l G a h0 O0 p6) (wk G 132) (wk G 57)) p1 (wk G 128) (wk G 129) (wk G 131) (wk G 131) (wk G 130) pd8 (sz hml) all0 sf00 (D d30_18) (k_v 21 rfl ?_)
  rintro _ h7 ⟨rfl, rfl⟩ K8
  refine go_ifF 24 (D d30_21) rfl (by decide) ?_
  refine go_iload_n 25 (D d30_24) rfl rfl ?_
  refine go_iload_n 26 (D d30_25) rfl rfl ?_
  refine go_aload_n 27 (D d30_26) rfl rfl rfl ?_
  refine go_getF 30 (wk G 61) Via.refl p5 (D d30_27) rfl ?_
  refine callS0 (cells' := 0) (slots' := 0) (Wd := 0) (argsL := [(.int p), (.int (Int32.ofNat (3 + (rep p).length))), (.ref t)]) (rest := []) (pay_of (a0 := a0) (c_getch l G p (Int32.ofNat (3 + (rep p).length)) t k L 3 h0 O0 p3 rfl (by decide) p9 p8) (wk G 135) (wk G 126)) (wk G 133) (wk G 134) (wk G 126) (wk G 135) pd21 (sz hml) (allS p3 all0) (fun _ hal => (sfS safe_nil sf0)) (D d30_30) (k_v 33 rfl ?_)
  rintro _ h9 ⟨r11, rfl, f12⟩ K10
  refine go_pop 34 (D d30_33) rfl rfl ?_
  refine go_goto 48 (D d30_34) (by decide) rfl ?_
  refine go_aload_n 49 (D d30_48) rfl rfl rfl ?_
  refine go_iload_n 50 (D d30_49) rfl rfl ?_
  have F13 := (p7.keep K10 (ninS p4 nin0))
  have E14 := (p1.keep K10)
  refine go_putF 53 (wk G 85) Via.refl F13 E14 (Or.inl (wk G 86)) (wk G 48) (ty := .int) (v' := (.int (Int32.ofNat (3 + (rep p).length)))) (by decide) rfl rfl p2 (Or.inr rfl) (D d30_50) rfl (fun h15 W16 => ?_)
  have F17 := Fld.same W16 F13
  refine go_aload_n 54 (D d30_53) rfl rfl rfl ?_
  have K18 : Keep h0 h9 [a, t] := ((Keep.refl h0 [a, t]).trans K10 (allS (Or.inl (by simp)) all0))
  have K19 : Keep h0 h15 [a, t] := (K18.wr W16 (Or.inl (by simp)))
  have F20 := ((p5.keep K10 (ninS p4 nin0)).other W16 (Or.inr (slot_ne (t := (.array .byte)) (t' := .int) (Or.inl (wk G 62)) (Or.inl (wk G 86)) (by decide) (by decide) (by decide))))
  have F21 := ((p6.keep K10 (ninS p4 nin0)).other W16 (Or.inr (slot_ne (t := .byte) (t' := .int) (Or.inl (wk G 64)) (Or.inl (wk G 86)) (by decide) (by decide) (by decide))))
  have A22 := (f12.other W16 (Ne.symm p4))
  refine go_areturn hret hlk rfl rfl (D d30_54) (by decide) (by decide) ⟨_, rfl, ⟨rfl, F20, F21, F17, A22⟩⟩ K19
theorem c_sbappi3 (G : GH Z a0) (a : Addr) (p : Int32) (t : Addr) (k : ClassId) (L : List Value) (h0 : Heap) (O0 : Old Z Z.heap.size h0) (p1 : Exa Z h0 a "java/lang/StringBuilder") (p2 : Z.heap.size ≤ a) (p3 : Z.heap.size ≤ t) (p4 : a ≠ t) (p5 : Fld Z h0 a "java/lang/AbstractStringBuilder" "value" "[B" (.ref t)) (p6 : Fld Z h0 a "java/lang/AbstractStringBuilder" "coder" "B" (.int 0)) (p7 : Fld Z h0 a "java/lang/AbstractStringBuilder" "count" "I" (.int 3)) (p8 : Arv Z h0 t k (.byte) (16 : Int32) L (.int 0)) (p9 : L.length = 16) : Con false [] l Z (⟨"java/lang/StringBuilder", "append", "(I)Ljava/lang/StringBuilder;"⟩ : MethodName) jdk_67_method_15_code 2 (some (.object "java/lang/StringBuilder")) [] (rm4 2 0 0 33) #[(.ref a), (.int p)] h0 [a, t] (rvl (Q_sbappi3 Z a p t k L h0)) := by
  refine conN G (plainFor_of_name pn3) O0 (fun m => ef3 m a p) ?_
  intro _ _ _ m_ _ _ _ D hml hret hlk hnm
  refine go_aload_n 1 (D d29_0) rfl rfl rfl ?_
  refine go_iload_n 2 (D d29_1) rfl rfl ?_
  refine callU0 (cells' := 0) (slots' := 0) (Wd := 0) (argsL := [(.int p)]) (rest := []) (pay_of (a0 := a0) (c_asbappi3 l G a p t k L h0 O0 p1 p2 p3 p4 p5 p6 p7 p8 p9) (wk G 123) (wk G 57)) (Ins.self p1) (wk G 120) (same_self (z := (⟨"java/lang/AbstractStringBuilder", "ensureCapacityInternal", "(I)V"⟩ : MethodName)) rfl (wk G 90) (wk G 121) (by decide)) (wk G 121) (wk G 72) (wk G 123) pd22 (sz hml) (allS p2 (allS p3 all0)) (fun _ hal => (sfS safe_nil (sfS safe_nil sf0))) (D d29_2) (k_v 5 rfl ?_)
  rintro _ h1 ⟨rfl, f3, f4, f5, f6⟩ K2
  refine go_pop 6 (D d29_5) rfl rfl ?_
  refine go_aload_n 7 (D d29_6) rfl rfl rfl ?_
  have K7 : Keep h0 h1 [a, t] := ((Keep.refl h0 [a, t]).trans K2 (allS (Or.inl (by simp)) (allS (Or.inl (by simp)) all0)))
  refine go_areturn hret hlk rfl rfl (D d29_7) (by decide) (by decide) ⟨_, rfl, ⟨rfl, f3, f4, f5, f6⟩⟩ K7
theorem c_hpts2 (G : GH Z a0) (a : Addr) (s : Addr) (p c0 c1 : Int32) (h0 : Heap) (O0 : Old Z Z.heap.size h0) (p1 : Fld Z h0 a "com/example/onceward/onceward/HostPort" "host" "Ljava/lang/String;" (.ref s)) (p2 : Fld Z h0 a "com/example/onceward/onceward/HostPort" "port" "I" (.int p)) (p3 : Str Z h0 s [c0, c1]) : Con true EL1 l Z (⟨"com/example/onceward/onceward/HostPort", "toString", "()Ljava/lang/String;"⟩ : MethodName) prog_9_method_7_code 1 (some (.object "java/lang/String")) [] (rm4 6 6 48 91) #[(.ref a)] h0 [] (rvl (Q_hpts2 Z a s p c0 c1 h0)) := by
  refine conW G (plainFor_of_name pn6) O0 (fun m => ef4 m a) ?_
  intro _ _ _ m_ _ _ _ D hml hret hlk hnm
  refine go_newO 3 (cells' := 1) (slots' := 4) (wk G 47) (wk G 48) (wk G 49) (D d24_0) rfl rfl rfl (by decide) (by decide) (fun h1 a2 g3 X4 E5 D6 U7 => ?_)
  refine go_dup 4 (D d24_3) rfl rfl ?_
  have F8 := D6 (Or.inl (wk G 62)) (ty := (.array .byte)) (by decide)
  have F9 := D6 (Or.inl (wk G 64)) (ty := .byte) (by decide)
  have F10 := D6 (Or.inl (wk G 86)) (ty := .int) (by decide)
  refine go_old (fun O11 => ?_)
  refine callI0 (cells' := 2) (slots' := 20) (Wd := 1) (argsL := []) (rest := [(.ref a2)]) (pay_of (a0 := a0) (c_sbinit l G a2 h1 O11 E5 (Nat.le_trans O0.2.1 (Nat.le_of_eq g3)) F8 F9 F10) (wk G 52) (wk G 49)) rfl (wk G 50) (wk G 51) (wk G 52) pd14 (sz hml) (allS (Nat.le_trans O0.2.1 (Nat.le_of_eq g3)) all0) (fun _ hal => (sfS (Safe.exa hal E5 (by decide) (by decide)) sf0)) (D d24_4) (k_n 7 rfl ?_)
  rintro  h12 ⟨r14, r15, f16, f17, f18, f19, f20⟩ K13
  refine go_aload_n 8 (D d24_7) rfl rfl rfl ?_
  have K21 : Keep h0 h1 [] := ((Keep.refl h0 []).ext X4)
  have K22 : Keep h0 h12 [] := (K21.trans K13 (allS (Or.inr (Nat.le_of_eq g3)) all0))
  have F23 := (p1.keep K22 nin0)
  refine go_getF 11 (wk G 38) Via.refl F23 (D d24_8) rfl ?_
  have E24 := (E5.keep K13)
  have S25 := (p3.keep K22)
  refine go_old (fun O26 => ?_)
  refine callV0 (cells' := 2) (slots' := 20) (Wd := 0) (argsL := [(.ref s)]) (rest := []) (pay_of (a0 := a0) (c_sbapp0_2 l G a2 s r14 r15 c0 c1 (0 : Int32) (0 : Int32) (0 : Int32) (0 : Int32) (0 : Int32) (0 : Int32) (0 : Int32) (0 : Int32) (0 : Int32) (0 : Int32) (0 : Int32) (0 : Int32) (0 : Int32) (0 : Int32) (0 : Int32) (0 : Int32) h12 O26 E24 (Nat.le_trans O0.2.1 (Nat.le_of_eq g3)) (Nat.le_trans O0.2.1 (Nat.le_trans K21.1 f16)) (Nat.ne_of_lt (Nat.lt_of_lt_of_le E5.lt f16)) f17 f18 f19 S25 f20) (wk G 69) (wk G 49)) E24 (wk G 65) (wk G 66) (wk G 68) (wk G 68) (wk G 67) pd19 (sz hml) (allS (Nat.le_trans O0.2.1 (Nat.le_of_eq g3)) (allS (Nat.le_trans O0.2.1 (Nat.le_trans K21.1 f16)) all0)) (fun _ hal => (sfS (Safe.exa hal E24 (by decide) (by decide)) (sfS (safe16 (ew16 G) hal f20) sf0))) (D d24_11) (k_v 14 rfl ?_)
  rintro _ h27 ⟨rfl, f29, f30, f31, f32⟩ K28
  refine go_ldcH 16 (cells' := 4) (slots' := 28) (n := 4) (vs := (([(58 : Int32)] : List Int32).map fun c => c.toInt8.toInt32).map Value.int) (z := (1 : Int32)) rfl (by decide) (wk G 112) (wS G) (by decide +kernel) (by decide) (by decide) (by decide) (by decide) (D d24_14) rfl rfl rfl (by decide) (by decide) (fun h33 a34 t36 k37 X35 E38 F39 F40 A41 => ?_)
  have S42 : Str Z h33 a34 [(58 : Int32)] := ⟨t36, k37, E38, F40, F39, A41, by decide, by decide⟩
  have E43 := ((E24.keep K28).ext X35)
  have K44 : Keep h27 h33 [] := ((Keep.refl h27 []).ext X35)
  have F45 := (f29.keep K44 nin0)
  have F46 := (f30.keep K44 nin0)
  have F47 := (f31.keep K44 nin0)
  have A48 := (f32.keep K44 nin0)
  refine go_old (fun O49 => ?_)
  refine callV0 (cells' := 4) (slots' := 28) (Wd := 0) (argsL := [(.ref a34)]) (rest := []) (pay_of (a0 := a0) (c_sbapp2_1 l G a2 a34 r14 r15 (58 : Int32) ((c0).toInt8.toInt32) ((c1).toInt8.toInt32) (0 : Int32) (0 : Int32) (0 : Int32) (0 : Int32) (0 : Int32) (0 : Int32) (0 : Int32) (0 : Int32) (0 : Int32) (0 : Int32) (0 : Int32) (0 : Int32) (0 : Int32) (0 : Int32) h33 O49 E43 (Nat.le_trans O0.2.1 (Nat.le_of_eq g3)) (Nat.le_trans O0.2.1 (Nat.le_trans K21.1 f16)) (Nat.ne_of_lt (Nat.lt_of_lt_of_le E5.lt f16)) F45 F46 F47 S42 A48) (wk G 69) (wk G 49)) E43 (wk G 65) (wk G 66) (wk G 68) (wk G 68) (wk G 67) pd19 (sz hml) (allS (Nat.le_trans O0.2.1 (Nat.le_of_eq g3)) (allS (Nat.le_trans O0.2.1 (Nat.le_trans K21.1 f16)) all0)) (fun _ hal => (sfS (Safe.exa hal E43 (by decide) (by decide)) (sfS (safe16 (ew16 G) hal A48) sf0))) (D d24_16) (k_v 19 rfl ?_)
  rintro _ h50 ⟨rfl, f52, f53, f54, f55⟩ K51
  refine go_aload_n 20 (D d24_19) rfl rfl rfl ?_
  have K56 : Keep h0 h27 [] := (K22.trans K28 (allS (Or.inr (Nat.le_of_eq g3)) (allS (Or.inr (Nat.le_trans K21.1 f16)) all0)))
  have K57 : Keep h0 h33 [] := (K56.ext X35)
  have K58 : Keep h0 h50 [] := (K57.trans K51 (allS (Or.inr (Nat.le_of_eq g3)) (allS (Or.inr (Nat.le_trans K21.1 f16)) all0)))
  have F59 := (p2.keep K58 nin0)
  refine go_getF 23 (wk G 40) Via.refl F59 (D d24_20) rfl ?_
  have E60 := (E43.keep K51)
  refine go_old (fun O61 => ?_)
  refine callV0 (cells' := 4) (slots' := 28) (Wd := 0) (argsL := [(.int p)]) (rest := []) (pay_of (a0 := a0) (c_sbappi3 l G a2 p r14 r15 [(.int (c0).toInt8.toInt32), (.int (c1).toInt8.toInt32), (.int ((58 : Int32)).toInt8.toInt32), (.int 0), (.int 0), (.int 0), (.int 0), (.int 0), (.int 0), (.int 0), (.int 0), (.int 0), (.int 0), (.int 0), (.int 0), (.int 0)] h50 O61 E60 (Nat.le_trans O0.2.1 (Nat.le_of_eq g3)) (Nat.le_trans O0.2.1 (Nat.le_trans K21.1 f16)) (Nat.ne_of_lt (Nat.lt_of_lt_of_le E5.lt f16)) f52 f53 f54 f55 rfl) (wk G 119) (wk G 49)) E60 (wk G 115) (wk G 116) (wk G 118) (wk G 118) (wk G 117) pd23 (sz hml) (allS (Nat.le_trans O0.2.1 (Nat.le_of_eq g3)) (allS (Nat.le_trans O0.2.1 (Nat.le_trans K21.1 f16)) all0)) (fun _ hal => (sfS (Safe.exa hal E60 (by decide) (by decide)) (sfS (safe16 (ew16 G) hal f55) sf0))) (D d24_23) (k_v 26 rfl ?_)
  rintro _ h62 ⟨rfl, f64, f65, f66, f67⟩ K63
  have E68 := (E60.keep K63)
  refine go_old (fun O69 => ?_)
  refine callV0 (cells' := 6) (slots' := 48) (Wd := 0) (argsL := []) (rest := []) (pay_of (a0 := a0) (c_sbts l G a2 r14 r15 (tk [(.int (c0).toInt8.toInt32), (.int (c1).toInt8.toInt32), (.int ((58 : Int32)).toInt8.toInt32), (.int 0), (.int 0), (.int 0), (.int 0), (.int 0), (.int 0), (.int 0), (.int 0), (.int 0), (.int 0), (.int 0), (.int 0), (.int 0)] 3 ((rep p).map Value.int) (3 + (rep p).length)) (3 + (rep p).length) h62 O69 E68 f64 f65 f66 f67 (tk16 rfl (by decide)) (by have := rep_b p; omega)) (wk G 141) (wk G 49)) E68 (wk G 137) (wk G 138) (wk G 140) (wk G 140) (wk G 139) pd24 (sz hml) all0 sf00 (D d24_26) (k_v 29 rfl ?_)
  rintro _ h70 ⟨r72, r73, r74, rfl, f75, f76, f77, f78, f79⟩ K71
  have q80 : C8 c0 := by obtain ⟨_, _, _, _, _, _, q, _⟩ := id p3; exact q _ (by simp)
  have q81 : C8 c1 := by obtain ⟨_, _, _, _, _, _, q, _⟩ := id p3; exact q _ (by simp)
  have S82 : Str Z h70 r72 ([c0, c1, (58 : Int32)] ++ rep p) := mk_str (L := [(.int (c0).toInt8.toInt32), (.int (c1).toInt8.toInt32), (.int ((58 : Int32)).toInt8.toInt32), (.int 0), (.int 0), (.int 0), (.int 0), (.int 0), (.int 0), (.int 0), (.int 0), (.int 0), (.int 0), (.int 0), (.int 0), (.int 0)]) rfl f76 f77 f78 f79 rfl (nb rfl) (c8c q80 (c8c q81 (c8c (by decide) c8n)))
  have K83 : Keep h0 h62 [] := (K58.trans K63 (allS (Or.inr (Nat.le_of_eq g3)) (allS (Or.inr (Nat.le_trans K21.1 f16)) all0)))
  have K84 : Keep h0 h70 [] := (K83.trans K71 all0)
  refine go_areturn hret hlk rfl rfl (D d24_29) (by decide) (by decide) ⟨_, rfl, ⟨r72, rfl, S82⟩⟩ K84
theorem c_law (G : GH Z a0) (x0 x1 x2 x3 : Int32)  (h0 : Heap) (O0 : Old Z Z.heap.size h0)  : Con true EL1 l Z x code maxLocals ret tables_1 room_1 #[(.int x0), (.int x1), (.int x2), (.int x3)] h0 [] (rvl (Q_law Z x0 x1 x2 x3 h0)) := by
  refine conW G (plainFor_of_name pn7) O0 (fun m => ef15 m x0 x1 x2 x3) ?_
  intro _ _ _ m_ _ _ _ D hml hret hlk hnm
  refine go_iload_n 1 (D at_0) rfl rfl ?_
  refine go_ldcI 3 (v := (2147483647 : Int32)) (wk G 0) (D at_1) rfl ?_
  refine go_iand 4 (z := (x2 &&& (2147483647 : Int32))) (D at_3) rfl rfl ?_
  refine go_iconst 5 (v := 3) (D at_4) rfl rfl ?_
  refine go_irem 6 (z := ((x2 &&& (2147483647 : Int32)) % (3 : Int32))) (D at_5) rfl (by decide) rfl ?_
  refine go_istore 8 (ls' := #[vi x0, vi x1, vi x2, vi x3, vi ((x2 &&& (2147483647 : Int32)) % (3 : Int32)), un, un, un, un, un, un, un, un, un, un]) (D at_6) rfl rfl ?_
  refine go_iload_n 9 (D at_8) rfl rfl ?_
  refine go_sipush 12 (v := 255) (D at_9) rfl rfl ?_
  refine go_iand 13 (z := (x0 &&& (255 : Int32))) (D at_12) rfl rfl ?_
  refine go_i2c 14 (z := (x0 &&& (255 : Int32))) (D at_13) rfl (i2c_mask _) ?_
  refine go_istore 16 (ls' := #[vi x0, vi x1, vi x2, vi x3, vi ((x2 &&& (2147483647 : Int32)) % (3 : Int32)), vi (x0 &&& (255 : Int32)), un, un, un, un, un, un, un, un, un]) (D at_14) rfl rfl ?_
  refine go_iload_n 17 (D at_16) rfl rfl ?_
  refine go_sipush 20 (v := 255) (D at_17) rfl rfl ?_
  refine go_iand 21 (z := (x1 &&& (255 : Int32))) (D at_20) rfl rfl ?_
  refine go_i2c 22 (z := (x1 &&& (255 : Int32))) (D at_21) rfl (i2c_mask _) ?_
  refine go_istore 24 (ls' := #[vi x0, vi x1, vi x2, vi x3, vi ((x2 &&& (2147483647 : Int32)) % (3 : Int32)), vi (x0 &&& (255 : Int32)), vi (x1 &&& (255 : Int32)), un, un, un, un, un, un, un, un]) (D at_22) rfl rfl ?_
  rcases rem3 (x2 &&& (2147483647 : Int32)) (and_nn _ _ (by decide)) with q1 | q1 | q1
  · rw [q1]
    refine go_iload 26 (D at_24) rfl rfl ?_
    refine go_ifF 29 (D at_26) rfl (by decide) ?_
    refine go_iconst 30 (v := 0) (D at_29) rfl rfl ?_
    refine go_newP 32 (cells' := 1) (slots' := 0) (cap := 0) (vs := []) (ty := .char) (dv := .int 0) (wk G 1) rfl rfl (D at_30) rfl (by decide) rfl (by decide) rfl rfl rfl (by decide) (by decide) (fun h2 a3 k7 g4 X5 A6 => ?_)
    refine go_astore 34 (ls' := #[vi x0, vi x1, vi x2, vi x3, vi 0, vi (x0 &&& (255 : Int32)), vi (x1 &&& (255 : Int32)), vr a3, un, un, un, un, un, un, un]) (D at_32) rfl rfl rfl ?_
    refine go_goto 71 (D at_34) (by decide) rfl ?_
    refine go_newO 74 (cells' := 2) (slots' := 4) (wk G 2) (wk G 3) (wk G 4) (D at_71) rfl rfl rfl (by decide) (by decide) (fun h8 a9 g10 X11 E12 D13 U14 => ?_)
    refine go_dup 75 (D at_74) rfl rfl ?_
    refine go_aload 77 (D at_75) rfl rfl rfl ?_
    have K15 : Keep h0 h2 [] := ((Keep.refl h0 []).ext X5)
    have F16 := D13 (Or.inr (wk G 30)) (ty := (.array .byte)) (by decide)
    have F17 := D13 (Or.inr (wk G 28)) (ty := .byte) (by decide)
    have K18 : Keep h2 h8 [] := ((Keep.refl h2 []).ext X11)
    have A19 := (A6.keep K18 nin0)
    refine go_old (fun O20 => ?_)
    refine callIW0 rfl (cells' := 6) (slots' := 12) (Wd := 1) (argsL := [(.ref a3)]) (rest := [(.ref a9)]) (payW_of (a0 := a0) (c_new0 l G a9 a3 k7 h8 O20 E12 (Nat.le_trans O0.2.1 (Nat.le_trans K15.1 (Nat.le_of_eq g10))) F16 F17 A19) (wk G 7) (wk G 4) (ew1 G)) rfl (wk G 5) (wk G 6) (wk G 7) pd12 (sz hml) (allS (Nat.le_trans O0.2.1 (Nat.le_trans K15.1 (Nat.le_of_eq g10))) all0) (D at_77) (k_n 80 rfl ?_)
    rintro  h21 f23 K22
    refine go_astore 82 (ls' := #[vi x0, vi x1, vi x2, vi x3, vi 0, vi (x0 &&& (255 : Int32)), vi (x1 &&& (255 : Int32)), vr a3, vr a9, un, un, un, un, un, un]) (D at_80) rfl rfl rfl ?_
    refine go_newO 85 (cells' := 7) (slots' := 14) (wk G 31) (wk G 32) (wk G 33) (D at_82) rfl rfl rfl (by decide) (by decide) (fun h24 a25 g26 X27 E28 D29 U30 => ?_)
    refine go_dup 86 (D at_85) rfl rfl ?_
    refine go_aload 88 (D at_86) rfl rfl rfl ?_
    refine go_iload_n 89 (D at_88) rfl rfl ?_
    have K31 : Keep h0 h8 [] := (K15.ext X11)
    have K32 : Keep h0 h21 [] := (K31.trans K22 (allS (Or.inr (Nat.le_trans K15.1 (Nat.le_of_eq g10))) all0))
    have F33 := D29 (Or.inr (wk G 39)) (ty := (.object "java/lang/String")) (by decide)
    have F34 := D29 (Or.inr (wk G 41)) (ty := .int) (by decide)
    refine go_old (fun O35 => ?_)
    refine callI0 (cells' := 7) (slots' := 14) (Wd := 1) (argsL := [(.ref a9), (.int x3)]) (rest := [(.ref a25)]) (pay_of (a0 := a0) (c_hpinit l G a25 a9 x3 h24 O35 E28 (Nat.le_trans O0.2.1 (Nat.le_trans K32.1 (Nat.le_of_eq g26))) F33 F34) (wk G 36) (wk G 33)) rfl (wk G 34) (wk G 35) (wk G 36) pd13 (sz hml) (allS (Nat.le_trans O0.2.1 (Nat.le_trans K32.1 (Nat.le_of_eq g26))) all0) (fun _ hal => (sfS (Safe.exa hal E28 (by decide) (by decide)) sf0)) (D at_89) (k_n 92 rfl ?_)
    rintro  h36 ⟨f38, f39⟩ K37
    have K40 : Keep h21 h24 [] := ((Keep.refl h21 []).ext X27)
    have K41 : Keep h21 h36 [] := (K40.trans K37 (allS (Or.inr (Nat.le_of_eq g26)) all0))
    have S42 := (f23.keep K41)
    refine go_old (fun O43 => ?_)
    have E44 := (E28.keep K37)
    refine callVW0 rfl (cells' := 13) (slots' := 62) (Wd := 0) (argsL := []) (rest := []) (payW_of (a0 := a0) (c_hpts0 l G a25 a9 x3 h36 O43 f38 f39 S42) (wk G 46) (wk G 33) (ew1 G)) E44 (wk G 42) (wk G 43) (wk G 45) (wk G 45) (wk G 44) pd24 (sz hml) all0 (D at_92) (k_v 95 rfl ?_)
    rintro _ h45 ⟨r47, rfl, f48⟩ K46
    refine go_astore 97 (ls' := #[vi x0, vi x1, vi x2, vi x3, vi 0, vi (x0 &&& (255 : Int32)), vi (x1 &&& (255 : Int32)), vr a3, vr a9, vr r47, un, un, un, un, un]) (D at_95) rfl rfl rfl ?_
    refine go_iload_n 98 (D at_97) rfl rfl ?_
    refine go_i2l 99 (z := (x3.toInt64)) (D at_98) rfl rfl ?_
    refine go_lstore 101 (ls' := #[vi x0, vi x1, vi x2, vi x3, vi 0, vi (x0 &&& (255 : Int32)), vi (x1 &&& (255 : Int32)), vr a3, vr a9, vr r47, .val (.long (x3.toInt64)), .second, un, un, un]) (D at_99) rfl rfl ?_
    refine go_lload 103 (D at_101) rfl rfl ?_
    refine go_lconst 104 (v := 0) (D at_103) rfl rfl ?_
    refine go_lcmp 105 (D at_104) rfl ?_
    by_cases cz49 : (x3.toInt64) < (0 : Int64)
    · refine go_ifF 108 (D at_105) rfl (XT.ll_ge_f cz49) ?_
      refine go_iconst 109 (v := 1) (D at_108) rfl rfl ?_
      refine go_goto 113 (D at_109) (by decide) rfl ?_
      refine go_istore 115 (ls' := #[vi x0, vi x1, vi x2, vi x3, vi 0, vi (x0 &&& (255 : Int32)), vi (x1 &&& (255 : Int32)), vr a3, vr a9, vr r47, .val (.long (x3.toInt64)), .second, vi 1, un, un]) (D at_113) rfl rfl ?_
      refine go_iload 117 (D at_115) rfl rfl ?_
      refine go_ifF 120 (D at_117) rfl (by decide) ?_
      refine go_lload 122 (D at_120) rfl rfl ?_
      refine go_lneg 123 (z := (-(x3.toInt64))) (D at_122) rfl rfl ?_
      refine go_lstore 125 (ls' := #[vi x0, vi x1, vi x2, vi x3, vi 0, vi (x0 &&& (255 : Int32)), vi (x1 &&& (255 : Int32)), vr a3, vr a9, vr r47, .val (.long (-(x3.toInt64))), .second, vi 1, un, un]) (D at_123) rfl rfl ?_
      refine go_eqf (g' := mkF m_ 125 #[.val (.int x0), .val (.int x1), .val (.int x2), .val (.int x3), .val (.int 0), .val (.int (x0 &&& (255 : Int32))), .val (.int (x1 &&& (255 : Int32))), .val (.ref a3), .val (.ref a9), .val (.ref r47), .val (.long (vabs x3)), .second, .val (.int 1), .unset, .unset] []) (by rw [← vabs_n cz49]) ?_
      refine go_lload 127 (D at_125) rfl rfl ?_
      refine go_old (fun O50 => ?_)
      refine callS0 (cells' := 13) (slots' := 62) (Wd := 0) (argsL := [(.long (vabs x3))]) (rest := []) (pay_of (a0 := a0) (c_numdig l G (vabs x3) x3 h45 O50 rfl) (wk G 181) (wk G 180)) (wk G 178) (wk G 179) (wk G 180) (wk G 181) pd25 (sz hml) all0 sf00 (D at_127) (k_v 130 rfl ?_)
      rintro _ h51 ⟨r53, rfl, rfl, f54⟩ K52
      subst f54
      refine go_istore 132 (ls' := #[vi x0, vi x1, vi x2, vi x3, vi 0, vi (x0 &&& (255 : Int32)), vi (x1 &&& (255 : Int32)), vr a3, vr a9, vr r47, .val (.long (vabs x3)), .second, vi 1, vi (Int32.ofNat (ndg (mag x3))), un]) (D at_130) rfl rfl ?_
      refine go_iload 134 (D at_132) rfl rfl ?_
      refine go_iconst 135 (v := 1) (D at_134) rfl rfl ?_
      refine go_iadd 136 (z := (1 : Int32)) (D at_135) rfl (by decide) ?_
      refine go_iload 138 (D at_136) rfl rfl ?_
      refine go_ifF 141 (D at_138) rfl (by decide) ?_
      refine go_iconst 142 (v := 1) (D at_141) rfl rfl ?_
      refine go_goto 146 (D at_142) (by decide) rfl ?_
      refine go_iadd 147 (z := (2 : Int32)) (D at_146) rfl (by decide) ?_
      refine go_istore 149 (ls' := #[vi x0, vi x1, vi x2, vi x3, vi 0, vi (x0 &&& (255 : Int32)), vi (x1 &&& (255 : Int32)), vr a3, vr a9, vr r47, .val (.long (vabs x3)), .second, vi 1, vi (Int32.ofNat (ndg (mag x3))), vi 2]) (D at_147) rfl rfl ?_
      refine go_aload 151 (D at_149) rfl rfl rfl ?_
      refine go_nullF 154 (D at_151) rfl ?_
      refine go_aload 156 (D at_154) rfl rfl rfl ?_
      refine callV0 (cells' := 13) (slots' := 62) (Wd := 0) (argsL := []) (rest := []) (pay_len G O50 (n := (Int32.ofNat ([(58 : Int32)] ++ rep x3).length)) f48 rfl (by decide) (by decide)) f48.exa (wk G 183) (wk G 76) (wk G 78) (wk G 78) (wk G 77) pd3 (sz hml) all0 sf00 (D at_156) (k_v 159 rfl ?_)
      rintro _ _ ⟨rfl, rfl⟩ -
      refine go_iload 161 (D at_159) rfl rfl ?_
      refine go_iload 163 (D at_161) rfl rfl ?_
      refine go_iadd 164 (z := (Int32.ofNat (2 + ndg (mag x3)))) (D at_163) rfl (ofn_add (n := 2) (by have := ndg_b (mag x3); omega)) ?_
      refine go_icT 169 (D at_164) (by decide) rfl (XT.ii_eq_t (len_n (sg_n cz49) rfl)) ?_
      refine go_iload 171 (D at_169) rfl rfl ?_
      refine go_iconst 172 (v := 1) (D at_171) rfl rfl ?_
      refine go_icT 188 (D at_172) (by decide) rfl (by decide) ?_
      refine go_iload 190 (D at_188) rfl rfl ?_
      refine go_iconst 191 (v := 2) (D at_190) rfl rfl ?_
      refine go_icT 207 (D at_191) (by decide) rfl (by decide) ?_
      refine go_aload 209 (D at_207) rfl rfl rfl ?_
      refine go_iload 211 (D at_209) rfl rfl ?_
      refine callV0 (cells' := 13) (slots' := 62) (Wd := 0) (argsL := [(.int 0)]) (rest := []) (pay_chr G O50 (i := 0) (c := (58 : Int32)) f48 rfl (lt_app (nb rfl)) rfl (by decide) (by decide)) f48.exa (wk G 184) (wk G 185) (wk G 187) (wk G 187) (wk G 186) pd26 (sz hml) all0 sf00 (D at_211) (k_v 214 rfl ?_)
      rintro _ _ ⟨rfl, rfl⟩ -
      refine go_bipush 216 (v := 58) (D at_214) rfl rfl ?_
      refine go_icT 221 (D at_216) (by decide) rfl (by decide) ?_
      refine go_iload 223 (D at_221) rfl rfl ?_
      refine go_ifF 226 (D at_223) rfl (by decide) ?_
      refine go_aload 228 (D at_226) rfl rfl rfl ?_
      refine go_iload 230 (D at_228) rfl rfl ?_
      refine go_iconst 231 (v := 1) (D at_230) rfl rfl ?_
      refine go_iadd 232 (z := (1 : Int32)) (D at_231) rfl (by decide) ?_
      refine callV0 (cells' := 13) (slots' := 62) (Wd := 0) (argsL := [(.int 1)]) (rest := []) (pay_chr G O50 (i := 1) (c := (45 : Int32)) f48 rfl (lt_app (nb rfl)) (gd_of (get_m (hs := [(58 : Int32)]) (sg_n cz49))) (by decide) (by decide)) f48.exa (wk G 184) (wk G 185) (wk G 187) (wk G 187) (wk G 186) pd26 (sz hml) all0 sf00 (D at_232) (k_v 235 rfl ?_)
      rintro _ _ ⟨rfl, rfl⟩ -
      refine go_bipush 237 (v := 45) (D at_235) rfl rfl ?_
      refine go_icT 242 (D at_237) (by decide) rfl (by decide) ?_
      refine go_aload 244 (D at_242) rfl rfl rfl ?_
      refine go_iload 246 (D at_244) rfl rfl ?_
      refine go_iload 248 (D at_246) rfl rfl ?_
      refine go_lload 250 (D at_248) rfl rfl ?_
      refine go_iconst 251 (v := 0) (D at_250) rfl rfl ?_
      refine callS0 (cells' := 14) (slots' := 72) (Wd := 0) (argsL := [(.ref r47), (.int 2), (.int (Int32.ofNat (ndg (mag x3)))), (.long (vabs x3)), (.int 0)]) (rest := []) (pay_of (a0 := a0) (c_digok0 l G r47 (2 : Int32) (Int32.ofNat (ndg (mag x3))) (vabs x3) x3 2 ([(58 : Int32)] ++ rep x3) h45 O50 f48 rfl rfl rfl (dgt_n (sg_n cz49) rfl) (by decide) (lenN_n (sg_n cz49) rfl)) (wk G 208) (wk G 180)) (wk G 206) (wk G 207) (wk G 180) (wk G 208) pd28 (sz hml) all0 sf00 (D at_251) (k_v 254 rfl ?_)
      rintro _ h55 rfl K56
      refine go_ifF 257 (D at_254) rfl (by decide) ?_
      refine go_aload 259 (D at_257) rfl rfl rfl ?_
      refine go_iload 261 (D at_259) rfl rfl ?_
      refine go_iload 263 (D at_261) rfl rfl ?_
      refine go_lload 265 (D at_263) rfl rfl ?_
      refine go_iconst 266 (v := 1) (D at_265) rfl rfl ?_
      have K57 : Keep h45 h55 [] := ((Keep.refl h45 []).trans K56 all0)
      have S58 := (f48.keep K57)
      refine go_old (fun O59 => ?_)
      refine callS0 (cells' := 15) (slots' := 82) (Wd := 0) (argsL := [(.ref r47), (.int 2), (.int (Int32.ofNat (ndg (mag x3)))), (.long (vabs x3)), (.int 1)]) (rest := []) (pay_of (a0 := a0) (c_digok1 l G r47 (2 : Int32) (Int32.ofNat (ndg (mag x3))) (vabs x3) x3 2 ([(58 : Int32)] ++ rep x3) h55 O59 S58 rfl rfl rfl (dgt_n (sg_n cz49) rfl) (by decide) (lenN_n (sg_n cz49) rfl)) (wk G 208) (wk G 180)) (wk G 206) (wk G 207) (wk G 180) (wk G 208) pd28 (sz hml) all0 sf00 (D at_266) (k_v 269 rfl ?_)
      rintro _ h60 rfl K61
      refine go_ifF 272 (D at_269) rfl (by decide) ?_
      refine go_aload 274 (D at_272) rfl rfl rfl ?_
      refine go_iload 276 (D at_274) rfl rfl ?_
      refine go_iload 278 (D at_276) rfl rfl ?_
      refine go_lload 280 (D at_278) rfl rfl ?_
      refine go_iconst 281 (v := 2) (D at_280) rfl rfl ?_
      have K62 : Keep h55 h60 [] := ((Keep.refl h55 []).trans K61 all0)
      have S63 := (S58.keep K62)
      refine go_old (fun O64 => ?_)
      refine callS0 (cells' := 16) (slots' := 92) (Wd := 0) (argsL := [(.ref r47), (.int 2), (.int (Int32.ofNat (ndg (mag x3)))), (.long (vabs x3)), (.int 2)]) (rest := []) (pay_of (a0 := a0) (c_digok2 l G r47 (2 : Int32) (Int32.ofNat (ndg (mag x3))) (vabs x3) x3 2 ([(58 : Int32)] ++ rep x3) h60 O64 S63 rfl rfl rfl (dgt_n (sg_n cz49) rfl) (by decide) (lenN_n (sg_n cz49) rfl)) (wk G 208) (wk G 180)) (wk G 206) (wk G 207) (wk G 180) (wk G 208) pd28 (sz hml) all0 sf00 (D at_281) (k_v 284 rfl ?_)
      rintro _ h65 rfl K66
      refine go_ifF 287 (D at_284) rfl (by decide) ?_
      refine go_aload 289 (D at_287) rfl rfl rfl ?_
      refine go_iload 291 (D at_289) rfl rfl ?_
      refine go_iload 293 (D at_291) rfl rfl ?_
      refine go_lload 295 (D at_293) rfl rfl ?_
      refine go_iconst 296 (v := 3) (D at_295) rfl rfl ?_
      have K67 : Keep h60 h65 [] := ((Keep.refl h60 []).trans K66 all0)
      have S68 := (S63.keep K67)
      refine go_old (fun O69 => ?_)
      refine callS0 (cells' := 17) (slots' := 102) (Wd := 0) (argsL := [(.ref r47), (.int 2), (.int (Int32.ofNat (ndg (mag x3)))), (.long (vabs x3)), (.int 3)]) (rest := []) (pay_of (a0 := a0) (c_digok3 l G r47 (2 : Int32) (Int32.ofNat (ndg (mag x3))) (vabs x3) x3 2 ([(58 : Int32)] ++ rep x3) h65 O69 S68 rfl rfl rfl (dgt_n (sg_n cz49) rfl) (by decide) (lenN_n (sg_n cz49) rfl)) (wk G 208) (wk G 180)) (wk G 206) (wk G 207) (wk G 180) (wk G 208) pd28 (sz hml) all0 sf00 (D at_296) (k_v 299 rfl ?_)
      rintro _ h70 rfl K71
      refine go_ifF 302 (D at_299) rfl (by decide) ?_
      refine go_aload 304 (D at_302) rfl rfl rfl ?_
      refine go_iload 306 (D at_304) rfl rfl ?_
      refine go_iload 308 (D at_306) rfl rfl ?_
      refine go_lload 310 (D at_308) rfl rfl ?_
      refine go_iconst 311 (v := 4) (D at_310) rfl rfl ?_
      have K72 : Keep h65 h70 [] := ((Keep.refl h65 []).trans K71 all0)
      have S73 := (S68.keep K72)
      refine go_old (fun O74 => ?_)
      refine callS0 (cells' := 18) (slots' := 112) (Wd := 0) (argsL := [(.ref r47), (.int 2), (.int (Int32.ofNat (ndg (mag x3)))), (.long (vabs x3)), (.int 4)]) (rest := []) (pay_of (a0 := a0) (c_digok4 l G r47 (2 : Int32) (Int32.ofNat (ndg (mag x3))) (vabs x3) x3 2 ([(58 : Int32)] ++ rep x3) h70 O74 S73 rfl rfl rfl (dgt_n (sg_n cz49) rfl) (by decide) (lenN_n (sg_n cz49) rfl)) (wk G 208) (wk G 180)) (wk G 206) (wk G 207) (wk G 180) (wk G 208) pd28 (sz hml) all0 sf00 (D at_311) (k_v 314 rfl ?_)
      rintro _ h75 rfl K76
      refine go_ifF 317 (D at_314) rfl (by decide) ?_
      refine go_aload 319 (D at_317) rfl rfl rfl ?_
      refine go_iload 321 (D at_319) rfl rfl ?_
      refine go_iload 323 (D at_321) rfl rfl ?_
      refine go_lload 325 (D at_323) rfl rfl ?_
      refine go_iconst 326 (v := 5) (D at_325) rfl rfl ?_
      have K77 : Keep h70 h75 [] := ((Keep.refl h70 []).trans K76 all0)
      have S78 := (S73.keep K77)
      refine go_old (fun O79 => ?_)
      refine callS0 (cells' := 19) (slots' := 122) (Wd := 0) (argsL := [(.ref r47), (.int 2), (.int (Int32.ofNat (ndg (mag x3)))), (.long (vabs x3)), (.int 5)]) (rest := []) (pay_of (a0 := a0) (c_digok5 l G r47 (2 : Int32) (Int32.ofNat (ndg (mag x3))) (vabs x3) x3 2 ([(58 : Int32)] ++ rep x3) h75 O79 S78 rfl rfl rfl (dgt_n (sg_n cz49) rfl) (by decide) (lenN_n (sg_n cz49) rfl)) (wk G 208) (wk G 180)) (wk G 206) (wk G 207) (wk G 180) (wk G 208) pd28 (sz hml) all0 sf00 (D at_326) (k_v 329 rfl ?_)
      rintro _ h80 rfl K81
      refine go_ifF 332 (D at_329) rfl (by decide) ?_
      refine go_aload 334 (D at_332) rfl rfl rfl ?_
      refine go_iload 336 (D at_334) rfl rfl ?_
      refine go_iload 338 (D at_336) rfl rfl ?_
      refine go_lload 340 (D at_338) rfl rfl ?_
      refine go_bipush 342 (v := 6) (D at_340) rfl rfl ?_
      have K82 : Keep h75 h80 [] := ((Keep.refl h75 []).trans K81 all0)
      have S83 := (S78.keep K82)
      refine go_old (fun O84 => ?_)
      refine callS0 (cells' := 20) (slots' := 132) (Wd := 0) (argsL := [(.ref r47), (.int 2), (.int (Int32.ofNat (ndg (mag x3)))), (.long (vabs x3)), (.int 6)]) (rest := []) (pay_of (a0 := a0) (c_digok6 l G r47 (2 : Int32) (Int32.ofNat (ndg (mag x3))) (vabs x3) x3 2 ([(58 : Int32)] ++ rep x3) h80 O84 S83 rfl rfl rfl (dgt_n (sg_n cz49) rfl) (by decide) (lenN_n (sg_n cz49) rfl)) (wk G 208) (wk G 180)) (wk G 206) (wk G 207) (wk G 180) (wk G 208) pd28 (sz hml) all0 sf00 (D at_342) (k_v 345 rfl ?_)
      rintro _ h85 rfl K86
      refine go_ifF 348 (D at_345) rfl (by decide) ?_
      refine go_aload 350 (D at_348) rfl rfl rfl ?_
      refine go_iload 352 (D at_350) rfl rfl ?_
      refine go_iload 354 (D at_352) rfl rfl ?_
      refine go_lload 356 (D at_354) rfl rfl ?_
      refine go_bipush 358 (v := 7) (D at_356) rfl rfl ?_
      have K87 : Keep h80 h85 [] := ((Keep.refl h80 []).trans K86 all0)
      have S88 := (S83.keep K87)
      refine go_old (fun O89 => ?_)
      refine callS0 (cells' := 21) (slots' := 142) (Wd := 0) (argsL := [(.ref r47), (.int 2), (.int (Int32.ofNat (ndg (mag x3)))), (.long (vabs x3)), (.int 7)]) (rest := []) (pay_of (a0 := a0) (c_digok7 l G r47 (2 : Int32) (Int32.ofNat (ndg (mag x3))) (vabs x3) x3 2 ([(58 : Int32)] ++ rep x3) h85 O89 S88 rfl rfl rfl (dgt_n (sg_n cz49) rfl) (by decide) (lenN_n (sg_n cz49) rfl)) (wk G 208) (wk G 180)) (wk G 206) (wk G 207) (wk G 180) (wk G 208) pd28 (sz hml) all0 sf00 (D at_358) (k_v 361 rfl ?_)
      rintro _ h90 rfl K91
      refine go_ifF 364 (D at_361) rfl (by decide) ?_
      refine go_aload 366 (D at_364) rfl rfl rfl ?_
      refine go_iload 368 (D at_366) rfl rfl ?_
      refine go_iload 370 (D at_368) rfl rfl ?_
      refine go_lload 372 (D at_370) rfl rfl ?_
      refine go_bipush 374 (v := 8) (D at_372) rfl rfl ?_
      have K92 : Keep h85 h90 [] := ((Keep.refl h85 []).trans K91 all0)
      have S93 := (S88.keep K92)
      refine go_old (fun O94 => ?_)
      refine callS0 (cells' := 22) (slots' := 152) (Wd := 0) (argsL := [(.ref r47), (.int 2), (.int (Int32.ofNat (ndg (mag x3)))), (.long (vabs x3)), (.int 8)]) (rest := []) (pay_of (a0 := a0) (c_digok8 l G r47 (2 : Int32) (Int32.ofNat (ndg (mag x3))) (vabs x3) x3 2 ([(58 : Int32)] ++ rep x3) h90 O94 S93 rfl rfl rfl (dgt_n (sg_n cz49) rfl) (by decide) (lenN_n (sg_n cz49) rfl)) (wk G 208) (wk G 180)) (wk G 206) (wk G 207) (wk G 180) (wk G 208) pd28 (sz hml) all0 sf00 (D at_374) (k_v 377 rfl ?_)
      rintro _ h95 rfl K96
      refine go_ifF 380 (D at_377) rfl (by decide) ?_
      refine go_aload 382 (D at_380) rfl rfl rfl ?_
      refine go_iload 384 (D at_382) rfl rfl ?_
      refine go_iload 386 (D at_384) rfl rfl ?_
      refine go_lload 388 (D at_386) rfl rfl ?_
      refine go_bipush 390 (v := 9) (D at_388) rfl rfl ?_
      have K97 : Keep h90 h95 [] := ((Keep.refl h90 []).trans K96 all0)
      have S98 := (S93.keep K97)
      refine go_old (fun O99 => ?_)
      refine callS0 (cells' := 23) (slots' := 162) (Wd := 0) (argsL := [(.ref r47), (.int 2), (.int (Int32.ofNat (ndg (mag x3)))), (.long (vabs x3)), (.int 9)]) (rest := []) (pay_of (a0 := a0) (c_digok9 l G r47 (2 : Int32) (Int32.ofNat (ndg (mag x3))) (vabs x3) x3 2 ([(58 : Int32)] ++ rep x3) h95 O99 S98 rfl rfl rfl (dgt_n (sg_n cz49) rfl) (by decide) (lenN_n (sg_n cz49) rfl)) (wk G 208) (wk G 180)) (wk G 206) (wk G 207) (wk G 180) (wk G 208) pd28 (sz hml) all0 sf00 (D at_390) (k_v 393 rfl ?_)
      rintro _ h100 rfl K101
      refine go_ifF 396 (D at_393) rfl (by decide) ?_
      refine go_iconst 397 (v := 1) (D at_396) rfl rfl ?_
      refine go_goto 401 (D at_397) (by decide) rfl ?_
      have K102 : Keep h0 h24 [] := (K32.ext X27)
      have K103 : Keep h0 h36 [] := (K102.trans K37 (allS (Or.inr (Nat.le_trans K32.1 (Nat.le_of_eq g26))) all0))
      have K104 : Keep h0 h45 [] := (K103.trans K46 all0)
      have K105 : Keep h0 h55 [] := (K104.trans K56 all0)
      have K106 : Keep h0 h60 [] := (K105.trans K61 all0)
      have K107 : Keep h0 h65 [] := (K106.trans K66 all0)
      have K108 : Keep h0 h70 [] := (K107.trans K71 all0)
      have K109 : Keep h0 h75 [] := (K108.trans K76 all0)
      have K110 : Keep h0 h80 [] := (K109.trans K81 all0)
      have K111 : Keep h0 h85 [] := (K110.trans K86 all0)
      have K112 : Keep h0 h90 [] := (K111.trans K91 all0)
      have K113 : Keep h0 h95 [] := (K112.trans K96 all0)
      have K114 : Keep h0 h100 [] := (K113.trans K101 all0)
      refine go_ireturn hret hlk rfl (by simp) (D at_401) (by decide) (by decide) ⟨_, rfl, rfl⟩ K114
    · refine go_ifT 112 (D at_105) (by decide) rfl (XT.ll_ge_t cz49) ?_
      refine go_iconst 113 (v := 0) (D at_112) rfl rfl ?_
      refine go_istore 115 (ls' := #[vi x0, vi x1, vi x2, vi x3, vi 0, vi (x0 &&& (255 : Int32)), vi (x1 &&& (255 : Int32)), vr a3, vr a9, vr r47, .val (.long (x3.toInt64)), .second, vi 0, un, un]) (D at_113) rfl rfl ?_
      refine go_iload 117 (D at_115) rfl rfl ?_
      refine go_ifT 125 (D at_117) (by decide) rfl (by decide) ?_
      refine go_eqf (g' := mkF m_ 125 #[.val (.int x0), .val (.int x1), .val (.int x2), .val (.int x3), .val (.int 0), .val (.int (x0 &&& (255 : Int32))), .val (.int (x1 &&& (255 : Int32))), .val (.ref a3), .val (.ref a9), .val (.ref r47), .val (.long (vabs x3)), .second, .val (.int 0), .unset, .unset] []) (by rw [← vabs_p cz49]) ?_
      refine go_lload 127 (D at_125) rfl rfl ?_
      refine go_old (fun O115 => ?_)
      refine callS0 (cells' := 13) (slots' := 62) (Wd := 0) (argsL := [(.long (vabs x3))]) (rest := []) (pay_of (a0 := a0) (c_numdig l G (vabs x3) x3 h45 O115 rfl) (wk G 181) (wk G 180)) (wk G 178) (wk G 179) (wk G 180) (wk G 181) pd25 (sz hml) all0 sf00 (D at_127) (k_v 130 rfl ?_)
      rintro _ h116 ⟨r118, rfl, rfl, f119⟩ K117
      subst f119
      refine go_istore 132 (ls' := #[vi x0, vi x1, vi x2, vi x3, vi 0, vi (x0 &&& (255 : Int32)), vi (x1 &&& (255 : Int32)), vr a3, vr a9, vr r47, .val (.long (vabs x3)), .second, vi 0, vi (Int32.ofNat (ndg (mag x3))), un]) (D at_130) rfl rfl ?_
      refine go_iload 134 (D at_132) rfl rfl ?_
      refine go_iconst 135 (v := 1) (D at_134) rfl rfl ?_
      refine go_iadd 136 (z := (1 : Int32)) (D at_135) rfl (by decide) ?_
      refine go_iload 138 (D at_136) rfl rfl ?_
      refine go_ifT 145 (D at_138) (by decide) rfl (by decide) ?_
      refine go_iconst 146 (v := 0) (D at_145) rfl rfl ?_
      refine go_iadd 147 (z := (1 : Int32)) (D at_146) rfl (by decide) ?_
      refine go_istore 149 (ls' := #[vi x0, vi x1, vi x2, vi x3, vi 0, vi (x0 &&& (255 : Int32)), vi (x1 &&& (255 : Int32)), vr a3, vr a9, vr r47, .val (.long (vabs x3)), .second, vi 0, vi (Int32.ofNat (ndg (mag x3))), vi 1]) (D at_147) rfl rfl ?_
      refine go_aload 151 (D at_149) rfl rfl rfl ?_
      refine go_nullF 154 (D at_151) rfl ?_
      refine go_aload 156 (D at_154) rfl rfl rfl ?_
      refine callV0 (cells' := 13) (slots' := 62) (Wd := 0) (argsL := []) (rest := []) (pay_len G O115 (n := (Int32.ofNat ([(58 : Int32)] ++ rep x3).length)) f48 rfl (by decide) (by decide)) f48.exa (wk G 183) (wk G 76) (wk G 78) (wk G 78) (wk G 77) pd3 (sz hml) all0 sf00 (D at_156) (k_v 159 rfl ?_)
      rintro _ _ ⟨rfl, rfl⟩ -
      refine go_iload 161 (D at_159) rfl rfl ?_
      refine go_iload 163 (D at_161) rfl rfl ?_
      refine go_iadd 164 (z := (Int32.ofNat (1 + ndg (mag x3)))) (D at_163) rfl (ofn_add (n := 1) (by have := ndg_b (mag x3); omega)) ?_
      refine go_icT 169 (D at_164) (by decide) rfl (XT.ii_eq_t (len_p (sg_p cz49) rfl)) ?_
      refine go_iload 171 (D at_169) rfl rfl ?_
      refine go_iconst 172 (v := 1) (D at_171) rfl rfl ?_
      refine go_icT 188 (D at_172) (by decide) rfl (by decide) ?_
      refine go_iload 190 (D at_188) rfl rfl ?_
      refine go_iconst 191 (v := 2) (D at_190) rfl rfl ?_
      refine go_icT 207 (D at_191) (by decide) rfl (by decide) ?_
      refine go_aload 209 (D at_207) rfl rfl rfl ?_
      refine go_iload 211 (D at_209) rfl rfl ?_
      refine callV0 (cells' := 13) (slots' := 62) (Wd := 0) (argsL := [(.int 0)]) (rest := []) (pay_chr G O115 (i := 0) (c := (58 : Int32)) f48 rfl (lt_app (nb rfl)) rfl (by decide) (by decide)) f48.exa (wk G 184) (wk G 185) (wk G 187) (wk G 187) (wk G 186) pd26 (sz hml) all0 sf00 (D at_211) (k_v 214 rfl ?_)
      rintro _ _ ⟨rfl, rfl⟩ -
      refine go_bipush 216 (v := 58) (D at_214) rfl rfl ?_
      refine go_icT 221 (D at_216) (by decide) rfl (by decide) ?_
      refine go_iload 223 (D at_221) rfl rfl ?_
      refine go_ifT 242 (D at_223) (by decide) rfl (by decide) ?_
      refine go_aload 244 (D at_242) rfl rfl rfl ?_
      refine go_iload 246 (D at_244) rfl rfl ?_
      refine go_iload 248 (D at_246) rfl rfl ?_
      refine go_lload 250 (D at_248) rfl rfl ?_
      refine go_iconst 251 (v := 0) (D at_250) rfl rfl ?_
      refine callS0 (cells' := 14) (slots' := 72) (Wd := 0) (argsL := [(.ref r47), (.int 1), (.int (Int32.ofNat (ndg (mag x3)))), (.long (vabs x3)), (.int 0)]) (rest := []) (pay_of (a0 := a0) (c_digok0 l G r47 (1 : Int32) (Int32.ofNat (ndg (mag x3))) (vabs x3) x3 1 ([(58 : Int32)] ++ rep x3) h45 O115 f48 rfl rfl rfl (dgt_p (sg_p cz49) rfl) (by decide) (lenN_p (sg_p cz49) rfl)) (wk G 208) (wk G 180)) (wk G 206) (wk G 207) (wk G 180) (wk G 208) pd28 (sz hml) all0 sf00 (D at_251) (k_v 254 rfl ?_)
      rintro _ h120 rfl K121
      refine go_ifF 257 (D at_254) rfl (by decide) ?_
      refine go_aload 259 (D at_257) rfl rfl rfl ?_
      refine go_iload 261 (D at_259) rfl rfl ?_
      refine go_iload 263 (D at_261) rfl rfl ?_
      refine go_lload 265 (D at_263) rfl rfl ?_
      refine go_iconst 266 (v := 1) (D at_265) rfl rfl ?_
      have K122 : Keep h45 h120 [] := ((Keep.refl h45 []).trans K121 all0)
      have S123 := (f48.keep K122)
      refine go_old (fun O124 => ?_)
      refine callS0 (cells' := 15) (slots' := 82) (Wd := 0) (argsL := [(.ref r47), (.int 1), (.int (Int32.ofNat (ndg (mag x3)))), (.long (vabs x3)), (.int 1)]) (rest := []) (pay_of (a0 := a0) (c_digok1 l G r47 (1 : Int32) (Int32.ofNat (ndg (mag x3))) (vabs x3) x3 1 ([(58 : Int32)] ++ rep x3) h120 O124 S123 rfl rfl rfl (dgt_p (sg_p cz49) rfl) (by decide) (lenN_p (sg_p cz49) rfl)) (wk G 208) (wk G 180)) (wk G 206) (wk G 207) (wk G 180) (wk G 208) pd28 (sz hml) all0 sf00 (D at_266) (k_v 269 rfl ?_)
      rintro _ h125 rfl K126
      refine go_ifF 272 (D at_269) rfl (by decide) ?_
      refine go_aload 274 (D at_272) rfl rfl rfl ?_
      refine go_iload 276 (D at_274) rfl rfl ?_
      refine go_iload 278 (D at_276) rfl rfl ?_
      refine go_lload 280 (D at_278) rfl rfl ?_
      refine go_iconst 281 (v := 2) (D at_280) rfl rfl ?_
      have K127 : Keep h120 h125 [] := ((Keep.refl h120 []).trans K126 all0)
      have S128 := (S123.keep K127)
      refine go_old (fun O129 => ?_)
      refine callS0 (cells' := 16) (slots' := 92) (Wd := 0) (argsL := [(.ref r47), (.int 1), (.int (Int32.ofNat (ndg (mag x3)))), (.long (vabs x3)), (.int 2)]) (rest := []) (pay_of (a0 := a0) (c_digok2 l G r47 (1 : Int32) (Int32.ofNat (ndg (mag x3))) (vabs x3) x3 1 ([(58 : Int32)] ++ rep x3) h125 O129 S128 rfl rfl rfl (dgt_p (sg_p cz49) rfl) (by decide) (lenN_p (sg_p cz49) rfl)) (wk G 208) (wk G 180)) (wk G 206) (wk G 207) (wk G 180) (wk G 208) pd28 (sz hml) all0 sf00 (D at_281) (k_v 284 rfl ?_)
      rintro _ h130 rfl K131
      refine go_ifF 287 (D at_284) rfl (by decide) ?_
      refine go_aload 289 (D at_287) rfl rfl rfl ?_
      refine go_iload 291 (D at_289) rfl rfl ?_
      refine go_iload 293 (D at_291) rfl rfl ?_
      refine go_lload 295 (D at_293) rfl rfl ?_
      refine go_iconst 296 (v := 3) (D at_295) rfl rfl ?_
      have K132 : Keep h125 h130 [] := ((Keep.refl h125 []).trans K131 all0)
      have S133 := (S128.keep K132)
      refine go_old (fun O134 => ?_)
      refine callS0 (cells' := 17) (slots' := 102) (Wd := 0) (argsL := [(.ref r47), (.int 1), (.int (Int32.ofNat (ndg (mag x3)))), (.long (vabs x3)), (.int 3)]) (rest := []) (pay_of (a0 := a0) (c_digok3 l G r47 (1 : Int32) (Int32.ofNat (ndg (mag x3))) (vabs x3) x3 1 ([(58 : Int32)] ++ rep x3) h130 O134 S133 rfl rfl rfl (dgt_p (sg_p cz49) rfl) (by decide) (lenN_p (sg_p cz49) rfl)) (wk G 208) (wk G 180)) (wk G 206) (wk G 207) (wk G 180) (wk G 208) pd28 (sz hml) all0 sf00 (D at_296) (k_v 299 rfl ?_)
      rintro _ h135 rfl K136
      refine go_ifF 302 (D at_299) rfl (by decide) ?_
      refine go_aload 304 (D at_302) rfl rfl rfl ?_
      refine go_iload 306 (D at_304) rfl rfl ?_
      refine go_iload 308 (D at_306) rfl rfl ?_
      refine go_lload 310 (D at_308) rfl rfl ?_
      refine go_iconst 311 (v := 4) (D at_310) rfl rfl ?_
      have K137 : Keep h130 h135 [] := ((Keep.refl h130 []).trans K136 all0)
      have S138 := (S133.keep K137)
      refine go_old (fun O139 => ?_)
      refine callS0 (cells' := 18) (slots' := 112) (Wd := 0) (argsL := [(.ref r47), (.int 1), (.int (Int32.ofNat (ndg (mag x3)))), (.long (vabs x3)), (.int 4)]) (rest := []) (pay_of (a0 := a0) (c_digok4 l G r47 (1 : Int32) (Int32.ofNat (ndg (mag x3))) (vabs x3) x3 1 ([(58 : Int32)] ++ rep x3) h135 O139 S138 rfl rfl rfl (dgt_p (sg_p cz49) rfl) (by decide) (lenN_p (sg_p cz49) rfl)) (wk G 208) (wk G 180)) (wk G 206) (wk G 207) (wk G 180) (wk G 208) pd28 (sz hml) all0 sf00 (D at_311) (k_v 314 rfl ?_)
      rintro _ h140 rfl K141
      refine go_ifF 317 (D at_314) rfl (by decide) ?_
      refine go_aload 319 (D at_317) rfl rfl rfl ?_
      refine go_iload 321 (D at_319) rfl rfl ?_
      refine go_iload 323 (D at_321) rfl rfl ?_
      refine go_lload 325 (D at_323) rfl rfl ?_
      refine go_iconst 326 (v := 5) (D at_325) rfl rfl ?_
      have K142 : Keep h135 h140 [] := ((Keep.refl h135 []).trans K141 all0)
      have S143 := (S138.keep K142)
      refine go_old (fun O144 => ?_)
      refine callS0 (cells' := 19) (slots' := 122) (Wd := 0) (argsL := [(.ref r47), (.int 1), (.int (Int32.ofNat (ndg (mag x3)))), (.long (vabs x3)), (.int 5)]) (rest := []) (pay_of (a0 := a0) (c_digok5 l G r47 (1 : Int32) (Int32.ofNat (ndg (mag x3))) (vabs x3) x3 1 ([(58 : Int32)] ++ rep x3) h140 O144 S143 rfl rfl rfl (dgt_p (sg_p cz49) rfl) (by decide) (lenN_p (sg_p cz49) rfl)) (wk G 208) (wk G 180)) (wk G 206) (wk G 207) (wk G 180) (wk G 208) pd28 (sz hml) all0 sf00 (D at_326) (k_v 329 rfl ?_)
      rintro _ h145 rfl K146
      refine go_ifF 332 (D at_329) rfl (by decide) ?_
      refine go_aload 334 (D at_332) rfl rfl rfl ?_
      refine go_iload 336 (D at_334) rfl rfl ?_
      refine go_iload 338 (D at_336) rfl rfl ?_
      refine go_lload 340 (D at_338) rfl rfl ?_
      refine go_bipush 342 (v := 6) (D at_340) rfl rfl ?_
      have K147 : Keep h140 h145 [] := ((Keep.refl h140 []).trans K146 all0)
      have S148 := (S143.keep K147)
      refine go_old (fun O149 => ?_)
      refine callS0 (cells' := 20) (slots' := 132) (Wd := 0) (argsL := [(.ref r47), (.int 1), (.int (Int32.ofNat (ndg (mag x3)))), (.long (vabs x3)), (.int 6)]) (rest := []) (pay_of (a0 := a0) (c_digok6 l G r47 (1 : Int32) (Int32.ofNat (ndg (mag x3))) (vabs x3) x3 1 ([(58 : Int32)] ++ rep x3) h145 O149 S148 rfl rfl rfl (dgt_p (sg_p cz49) rfl) (by decide) (lenN_p (sg_p cz49) rfl)) (wk G 208) (wk G 180)) (wk G 206) (wk G 207) (wk G 180) (wk G 208) pd28 (sz hml) all0 sf00 (D at_342) (k_v 345 rfl ?_)
      rintro _ h150 rfl K151
      refine go_ifF 348 (D at_345) rfl (by decide) ?_
      refine go_aload 350 (D at_348) rfl rfl rfl ?_
      refine go_iload 352 (D at_350) rfl rfl ?_
      refine go_iload 354 (D at_352) rfl rfl ?_
      refine go_lload 356 (D at_354) rfl rfl ?_
      refine go_bipush 358 (v := 7) (D at_356) rfl rfl ?_
      have K152 : Keep h145 h150 [] := ((Keep.refl h145 []).trans K151 all0)
      have S153 := (S148.keep K152)
      refine go_old (fun O154 => ?_)
      refine callS0 (cells' := 21) (slots' := 142) (Wd := 0) (argsL := [(.ref r47), (.int 1), (.int (Int32.ofNat (ndg (mag x3)))), (.long (vabs x3)), (.int 7)]) (rest := []) (pay_of (a0 := a0) (c_digok7 l G r47 (1 : Int32) (Int32.ofNat (ndg (mag x3))) (vabs x3) x3 1 ([(58 : Int32)] ++ rep x3) h150 O154 S153 rfl rfl rfl (dgt_p (sg_p cz49) rfl) (by decide) (lenN_p (sg_p cz49) rfl)) (wk G 208) (wk G 180)) (wk G 206) (wk G 207) (wk G 180) (wk G 208) pd28 (sz hml) all0 sf00 (D at_358) (k_v 361 rfl ?_)
      rintro _ h155 rfl K156
      refine go_ifF 364 (D at_361) rfl (by decide) ?_
      refine go_aload 366 (D at_364) rfl rfl rfl ?_
      refine go_iload 368 (D at_366) rfl rfl ?_
      refine go_iload 370 (D at_368) rfl rfl ?_
      refine go_lload 372 (D at_370) rfl rfl ?_
      refine go_bipush 374 (v := 8) (D at_372) rfl rfl ?_
      have K157 : Keep h150 h155 [] := ((Keep.refl h150 []).trans K156 all0)
      have S158 := (S153.keep K157)
      refine go_old (fun O159 => ?_)
      refine callS0 (cells' := 22) (slots' := 152) (Wd := 0) (argsL := [(.ref r47), (.int 1), (.int (Int32.ofNat (ndg (mag x3)))), (.long (vabs x3)), (.int 8)]) (rest := []) (pay_of (a0 := a0) (c_digok8 l G r47 (1 : Int32) (Int32.ofNat (ndg (mag x3))) (vabs x3) x3 1 ([(58 : Int32)] ++ rep x3) h155 O159 S158 rfl rfl rfl (dgt_p (sg_p cz49) rfl) (by decide) (lenN_p (sg_p cz49) rfl)) (wk G 208) (wk G 180)) (wk G 206) (wk G 207) (wk G 180) (wk G 208) pd28 (sz hml) all0 sf00 (D at_374) (k_v 377 rfl ?_)
      rintro _ h160 rfl K161
      refine go_ifF 380 (D at_377) rfl (by decide) ?_
      refine go_aload 382 (D at_380) rfl rfl rfl ?_
      refine go_iload 384 (D at_382) rfl rfl ?_
      refine go_iload 386 (D at_384) rfl rfl ?_
      refine go_lload 388 (D at_386) rfl rfl ?_
      refine go_bipush 390 (v := 9) (D at_388) rfl rfl ?_
      have K162 : Keep h155 h160 [] := ((Keep.refl h155 []).trans K161 all0)
      have S163 := (S158.keep K162)
      refine go_old (fun O164 => ?_)
      refine callS0 (cells' := 23) (slots' := 162) (Wd := 0) (argsL := [(.ref r47), (.int 1), (.int (Int32.ofNat (ndg (mag x3)))), (.long (vabs x3)), (.int 9)]) (rest := []) (pay_of (a0 := a0) (c_digok9 l G r47 (1 : Int32) (Int32.ofNat (ndg (mag x3))) (vabs x3) x3 1 ([(58 : Int32)] ++ rep x3) h160 O164 S163 rfl rfl rfl (dgt_p (sg_p cz49) rfl) (by decide) (lenN_p (sg_p cz49) rfl)) (wk G 208) (wk G 180)) (wk G 206) (wk G 207) (wk G 180) (wk G 208) pd28 (sz hml) all0 sf00 (D at_390) (k_v 393 rfl ?_)
      rintro _ h165 rfl K166
      refine go_ifF 396 (D at_393) rfl (by decide) ?_
      refine go_iconst 397 (v := 1) (D at_396) rfl rfl ?_
      refine go_goto 401 (D at_397) (by decide) rfl ?_
      have K167 : Keep h0 h24 [] := (K32.ext X27)
      have K168 : Keep h0 h36 [] := (K167.trans K37 (allS (Or.inr (Nat.le_trans K32.1 (Nat.le_of_eq g26))) all0))
      have K169 : Keep h0 h45 [] := (K168.trans K46 all0)
      have K170 : Keep h0 h120 [] := (K169.trans K121 all0)
      have K171 : Keep h0 h125 [] := (K170.trans K126 all0)
      have K172 : Keep h0 h130 [] := (K171.trans K131 all0)
      have K173 : Keep h0 h135 [] := (K172.trans K136 all0)
      have K174 : Keep h0 h140 [] := (K173.trans K141 all0)
      have K175 : Keep h0 h145 [] := (K174.trans K146 all0)
      have K176 : Keep h0 h150 [] := (K175.trans K151 all0)
      have K177 : Keep h0 h155 [] := (K176.trans K156 all0)
      have K178 : Keep h0 h160 [] := (K177.trans K161 all0)
      have K179 : Keep h0 h165 [] := (K178.trans K166 all0)
      refine go_ireturn hret hlk rfl (by simp) (D at_401) (by decide) (by decide) ⟨_, rfl, rfl⟩ K179
  · rw [q1]
    refine go_iload 26 (D at_24) rfl rfl ?_
    refine go_ifT 37 (D at_26) (by decide) rfl (by decide) ?_
    refine go_iload 39 (D at_37) rfl rfl ?_
    refine go_iconst 40 (v := 1) (D at_39) rfl rfl ?_
    refine go_icF 43 (D at_40) rfl (by decide) ?_
    refine go_iconst 44 (v := 1) (D at_43) rfl rfl ?_
    refine go_newP 46 (cells' := 1) (slots' := 1) (cap := 1) (vs := [(.int 0)]) (ty := .char) (dv := .int 0) (wk G 1) rfl rfl (D at_44) rfl (by decide) rfl (by decide) rfl rfl rfl (by decide) (by decide) (fun h180 a181 k185 g182 X183 A184 => ?_)
    refine go_dup 47 (D at_46) rfl rfl ?_
    refine go_iconst 48 (v := 0) (D at_47) rfl rfl ?_
    refine go_iload 50 (D at_48) rfl rfl ?_
    refine go_stC 51 (i := 0) (x' := (x0 &&& (255 : Int32))) (vs' := [(.int (x0 &&& (255 : Int32)))]) A184 (Nat.le_trans O0.2.1 (Nat.le_of_eq g182)) (by decide) (by decide) rfl (nb rfl) (i2c_mask _) rfl (D at_50) rfl (fun h186 W187 A188 => ?_)
    refine go_astore 53 (ls' := #[vi x0, vi x1, vi x2, vi x3, vi 1, vi (x0 &&& (255 : Int32)), vi (x1 &&& (255 : Int32)), vr a181, un, un, un, un, un, un, un]) (D at_51) rfl rfl rfl ?_
    refine go_goto 71 (D at_53) (by decide) rfl ?_
    refine go_newO 74 (cells' := 2) (slots' := 5) (wk G 2) (wk G 3) (wk G 4) (D at_71) rfl rfl rfl (by decide) (by decide) (fun h189 a190 g191 X192 E193 D194 U195 => ?_)
    refine go_dup 75 (D at_74) rfl rfl ?_
    refine go_aload 77 (D at_75) rfl rfl rfl ?_
    have F196 := D194 (Or.inr (wk G 30)) (ty := (.array .byte)) (by decide)
    have F197 := D194 (Or.inr (wk G 28)) (ty := .byte) (by decide)
    have K198 : Keep h186 h189 [] := ((Keep.refl h186 []).ext X192)
    have A199 := (A188.keep K198 nin0)
    refine go_old (fun O200 => ?_)
    have K201 : Keep h0 h180 [] := ((Keep.refl h0 []).ext X183)
    have K202 : Keep h0 h186 [] := (K201.wr W187 (Or.inr (Nat.le_of_eq g182)))
    refine callI0 (cells' := 3) (slots' := 6) (Wd := 1) (argsL := [(.ref a181)]) (rest := [(.ref a190)]) (pay_new G O200 (cs := [(x0 &&& (255 : Int32))]) (n := 1) (Nat.le_trans O0.2.1 (Nat.le_trans K202.1 (Nat.le_of_eq g191))) E193 F196 F197 A199 rfl rfl (by decide) (by decide) (c8c (c8_m _) c8n) (by decide) (by decide)) rfl (wk G 5) (wk G 6) (wk G 7) pd12 (sz hml) (allS (Nat.le_trans O0.2.1 (Nat.le_trans K202.1 (Nat.le_of_eq g191))) all0) (fun _ hal => (sfS (safe_null hal E193 F196) sf0)) (D at_77) (k_n 80 rfl ?_)
    rintro h203 S205 K204
    refine go_astore 82 (ls' := #[vi x0, vi x1, vi x2, vi x3, vi 1, vi (x0 &&& (255 : Int32)), vi (x1 &&& (255 : Int32)), vr a181, vr a190, un, un, un, un, un, un]) (D at_80) rfl rfl rfl ?_
    refine go_newO 85 (cells' := 4) (slots' := 8) (wk G 31) (wk G 32) (wk G 33) (D at_82) rfl rfl rfl (by decide) (by decide) (fun h206 a207 g208 X209 E210 D211 U212 => ?_)
    refine go_dup 86 (D at_85) rfl rfl ?_
    refine go_aload 88 (D at_86) rfl rfl rfl ?_
    refine go_iload_n 89 (D at_88) rfl rfl ?_
    have K213 : Keep h0 h189 [] := (K202.ext X192)
    have K214 : Keep h0 h203 [] := (K213.trans K204 (allS (Or.inr (Nat.le_trans K202.1 (Nat.le_of_eq g191))) all0))
    have F215 := D211 (Or.inr (wk G 39)) (ty := (.object "java/lang/String")) (by decide)
    have F216 := D211 (Or.inr (wk G 41)) (ty := .int) (by decide)
    refine go_old (fun O217 => ?_)
    refine callI0 (cells' := 4) (slots' := 8) (Wd := 1) (argsL := [(.ref a190), (.int x3)]) (rest := [(.ref a207)]) (pay_of (a0 := a0) (c_hpinit l G a207 a190 x3 h206 O217 E210 (Nat.le_trans O0.2.1 (Nat.le_trans K214.1 (Nat.le_of_eq g208))) F215 F216) (wk G 36) (wk G 33)) rfl (wk G 34) (wk G 35) (wk G 36) pd13 (sz hml) (allS (Nat.le_trans O0.2.1 (Nat.le_trans K214.1 (Nat.le_of_eq g208))) all0) (fun _ hal => (sfS (Safe.exa hal E210 (by decide) (by decide)) sf0)) (D at_89) (k_n 92 rfl ?_)
    rintro  h218 ⟨f220, f221⟩ K219
    have K222 : Keep h203 h206 [] := ((Keep.refl h203 []).ext X209)
    have K223 : Keep h203 h218 [] := (K222.trans K219 (allS (Or.inr (Nat.le_of_eq g208)) all0))
    have S224 := (S205.keep K223)
    refine go_old (fun O225 => ?_)
    have E226 := (E210.keep K219)
    refine callVW0 rfl (cells' := 10) (slots' := 56) (Wd := 0) (argsL := []) (rest := []) (payW_of (a0 := a0) (c_hpts1 l G a207 a190 x3 (x0 &&& (255 : Int32)) h218 O225 f220 f221 S224) (wk G 46) (wk G 33) (ew1 G)) E226 (wk G 42) (wk G 43) (wk G 45) (wk G 45) (wk G 44) pd24 (sz hml) all0 (D at_92) (k_v 95 rfl ?_)
    rintro _ h227 ⟨r229, rfl, f230⟩ K228
    refine go_astore 97 (ls' := #[vi x0, vi x1, vi x2, vi x3, vi 1, vi (x0 &&& (255 : Int32)), vi (x1 &&& (255 : Int32)), vr a181, vr a190, vr r229, un, un, un, un, un]) (D at_95) rfl rfl rfl ?_
    refine go_iload_n 98 (D at_97) rfl rfl ?_
    refine go_i2l 99 (z := (x3.toInt64)) (D at_98) rfl rfl ?_
    refine go_lstore 101 (ls' := #[vi x0, vi x1, vi x2, vi x3, vi 1, vi (x0 &&& (255 : Int32)), vi (x1 &&& (255 : Int32)), vr a181, vr a190, vr r229, .val (.long (x3.toInt64)), .second, un, un, un]) (D at_99) rfl rfl ?_
    refine go_lload 103 (D at_101) rfl rfl ?_
    refine go_lconst 104 (v := 0) (D at_103) rfl rfl ?_
    refine go_lcmp 105 (D at_104) rfl ?_
    by_cases cz231 : (x3.toInt64) < (0 : Int64)
    · refine go_ifF 108 (D at_105) rfl (XT.ll_ge_f cz231) ?_
      refine go_iconst 109 (v := 1) (D at_108) rfl rfl ?_
      refine go_goto 113 (D at_109) (by decide) rfl ?_
      refine go_istore 115 (ls' := #[vi x0, vi x1, vi x2, vi x3, vi 1, vi (x0 &&& (255 : Int32)), vi (x1 &&& (255 : Int32)), vr a181, vr a190, vr r229, .val (.long (x3.toInt64)), .second, vi 1, un, un]) (D at_113) rfl rfl ?_
      refine go_iload 117 (D at_115) rfl rfl ?_
      refine go_ifF 120 (D at_117) rfl (by decide) ?_
      refine go_lload 122 (D at_120) rfl rfl ?_
      refine go_lneg 123 (z := (-(x3.toInt64))) (D at_122) rfl rfl ?_
      refine go_lstore 125 (ls' := #[vi x0, vi x1, vi x2, vi x3, vi 1, vi (x0 &&& (255 : Int32)), vi (x1 &&& (255 : Int32)), vr a181, vr a190, vr r229, .val (.long (-(x3.toInt64))), .second, vi 1, un, un]) (D at_123) rfl rfl ?_
      refine go_eqf (g' := mkF m_ 125 #[.val (.int x0), .val (.int x1), .val (.int x2), .val (.int x3), .val (.int 1), .val (.int (x0 &&& (255 : Int32))), .val (.int (x1 &&& (255 : Int32))), .val (.ref a181), .val (.ref a190), .val (.ref r229), .val (.long (vabs x3)), .second, .val (.int 1), .unset, .unset] []) (by rw [← vabs_n cz231]) ?_
      refine go_lload 127 (D at_125) rfl rfl ?_
      refine go_old (fun O232 => ?_)
      refine callS0 (cells' := 10) (slots' := 56) (Wd := 0) (argsL := [(.long (vabs x3))]) (rest := []) (pay_of (a0 := a0) (c_numdig l G (vabs x3) x3 h227 O232 rfl) (wk G 181) (wk G 180)) (wk G 178) (wk G 179) (wk G 180) (wk G 181) pd25 (sz hml) all0 sf00 (D at_127) (k_v 130 rfl ?_)
      rintro _ h233 ⟨r235, rfl, rfl, f236⟩ K234
      subst f236
      refine go_istore 132 (ls' := #[vi x0, vi x1, vi x2, vi x3, vi 1, vi (x0 &&& (255 : Int32)), vi (x1 &&& (255 : Int32)), vr a181, vr a190, vr r229, .val (.long (vabs x3)), .second, vi 1, vi (Int32.ofNat (ndg (mag x3))), un]) (D at_130) rfl rfl ?_
      refine go_iload 134 (D at_132) rfl rfl ?_
      refine go_iconst 135 (v := 1) (D at_134) rfl rfl ?_
      refine go_iadd 136 (z := (2 : Int32)) (D at_135) rfl (by decide) ?_
      refine go_iload 138 (D at_136) rfl rfl ?_
      refine go_ifF 141 (D at_138) rfl (by decide) ?_
      refine go_iconst 142 (v := 1) (D at_141) rfl rfl ?_
      refine go_goto 146 (D at_142) (by decide) rfl ?_
      refine go_iadd 147 (z := (3 : Int32)) (D at_146) rfl (by decide) ?_
      refine go_istore 149 (ls' := #[vi x0, vi x1, vi x2, vi x3, vi 1, vi (x0 &&& (255 : Int32)), vi (x1 &&& (255 : Int32)), vr a181, vr a190, vr r229, .val (.long (vabs x3)), .second, vi 1, vi (Int32.ofNat (ndg (mag x3))), vi 3]) (D at_147) rfl rfl ?_
      refine go_aload 151 (D at_149) rfl rfl rfl ?_
      refine go_nullF 154 (D at_151) rfl ?_
      refine go_aload 156 (D at_154) rfl rfl rfl ?_
      refine callV0 (cells' := 10) (slots' := 56) (Wd := 0) (argsL := []) (rest := []) (pay_len G O232 (n := (Int32.ofNat ([(x0 &&& (255 : Int32)), (58 : Int32)] ++ rep x3).length)) f230 rfl (by decide) (by decide)) f230.exa (wk G 183) (wk G 76) (wk G 78) (wk G 78) (wk G 77) pd3 (sz hml) all0 sf00 (D at_156) (k_v 159 rfl ?_)
      rintro _ _ ⟨rfl, rfl⟩ -
      refine go_iload 161 (D at_159) rfl rfl ?_
      refine go_iload 163 (D at_161) rfl rfl ?_
      refine go_iadd 164 (z := (Int32.ofNat (3 + ndg (mag x3)))) (D at_163) rfl (ofn_add (n := 3) (by have := ndg_b (mag x3); omega)) ?_
      refine go_icT 169 (D at_164) (by decide) rfl (XT.ii_eq_t (len_n (sg_n cz231) rfl)) ?_
      refine go_iload 171 (D at_169) rfl rfl ?_
      refine go_iconst 172 (v := 1) (D at_171) rfl rfl ?_
      refine go_icF 175 (D at_172) rfl (by decide) ?_
      refine go_aload 177 (D at_175) rfl rfl rfl ?_
      refine go_iconst 178 (v := 0) (D at_177) rfl rfl ?_
      refine callV0 (cells' := 10) (slots' := 56) (Wd := 0) (argsL := [(.int 0)]) (rest := []) (pay_chr G O232 (i := 0) (c := (x0 &&& (255 : Int32))) f230 rfl (lt_app (nb rfl)) rfl (by decide) (by decide)) f230.exa (wk G 184) (wk G 185) (wk G 187) (wk G 187) (wk G 186) pd26 (sz hml) all0 sf00 (D at_178) (k_v 181 rfl ?_)
      rintro _ _ ⟨rfl, rfl⟩ -
      refine go_iload 183 (D at_181) rfl rfl ?_
      refine go_icT 188 (D at_183) (by decide) rfl (XT.ii_eq_t rfl) ?_
      refine go_iload 190 (D at_188) rfl rfl ?_
      refine go_iconst 191 (v := 2) (D at_190) rfl rfl ?_
      refine go_icT 207 (D at_191) (by decide) rfl (by decide) ?_
      refine go_aload 209 (D at_207) rfl rfl rfl ?_
      refine go_iload 211 (D at_209) rfl rfl ?_
      refine callV0 (cells' := 10) (slots' := 56) (Wd := 0) (argsL := [(.int 1)]) (rest := []) (pay_chr G O232 (i := 1) (c := (58 : Int32)) f230 rfl (lt_app (nb rfl)) rfl (by decide) (by decide)) f230.exa (wk G 184) (wk G 185) (wk G 187) (wk G 187) (wk G 186) pd26 (sz hml) all0 sf00 (D at_211) (k_v 214 rfl ?_)
      rintro _ _ ⟨rfl, rfl⟩ -
      refine go_bipush 216 (v := 58) (D at_214) rfl rfl ?_
      refine go_icT 221 (D at_216) (by decide) rfl (by decide) ?_
      refine go_iload 223 (D at_221) rfl rfl ?_
      refine go_ifF 226 (D at_223) rfl (by decide) ?_
      refine go_aload 228 (D at_226) rfl rfl rfl ?_
      refine go_iload 230 (D at_228) rfl rfl ?_
      refine go_iconst 231 (v := 1) (D at_230) rfl rfl ?_
      refine go_iadd 232 (z := (2 : Int32)) (D at_231) rfl (by decide) ?_
      refine callV0 (cells' := 10) (slots' := 56) (Wd := 0) (argsL := [(.int 2)]) (rest := []) (pay_chr G O232 (i := 2) (c := (45 : Int32)) f230 rfl (lt_app (nb rfl)) (gd_of (get_m (hs := [(x0 &&& (255 : Int32)), (58 : Int32)]) (sg_n cz231))) (by decide) (by decide)) f230.exa (wk G 184) (wk G 185) (wk G 187) (wk G 187) (wk G 186) pd26 (sz hml) all0 sf00 (D at_232) (k_v 235 rfl ?_)
      rintro _ _ ⟨rfl, rfl⟩ -
      refine go_bipush 237 (v := 45) (D at_235) rfl rfl ?_
      refine go_icT 242 (D at_237) (by decide) rfl (by decide) ?_
      refine go_aload 244 (D at_242) rfl rfl rfl ?_
      refine go_iload 246 (D at_244) rfl rfl ?_
      refine go_iload 248 (D at_246) rfl rfl ?_
      refine go_lload 250 (D at_248) rfl rfl ?_
      refine go_iconst 251 (v := 0) (D at_250) rfl rfl ?_
      refine callS0 (cells' := 11) (slots' := 66) (Wd := 0) (argsL := [(.ref r229), (.int 3), (.int (Int32.ofNat (ndg (mag x3)))), (.long (vabs x3)), (.int 0)]) (rest := []) (pay_of (a0 := a0) (c_digok0 l G r229 (3 : Int32) (Int32.ofNat (ndg (mag x3))) (vabs x3) x3 3 ([(x0 &&& (255 : Int32)), (58 : Int32)] ++ rep x3) h227 O232 f230 rfl rfl rfl (dgt_n (sg_n cz231) rfl) (by decide) (lenN_n (sg_n cz231) rfl)) (wk G 208) (wk G 180)) (wk G 206) (wk G 207) (wk G 180) (wk G 208) pd28 (sz hml) all0 sf00 (D at_251) (k_v 254 rfl ?_)
      rintro _ h237 rfl K238
      refine go_ifF 257 (D at_254) rfl (by decide) ?_
      refine go_aload 259 (D at_257) rfl rfl rfl ?_
      refine go_iload 261 (D at_259) rfl rfl ?_
      refine go_iload 263 (D at_261) rfl rfl ?_
      refine go_lload 265 (D at_263) rfl rfl ?_
      refine go_iconst 266 (v := 1) (D at_265) rfl rfl ?_
      have K239 : Keep h227 h237 [] := ((Keep.refl h227 []).trans K238 all0)
      have S240 := (f230.keep K239)
      refine go_old (fun O241 => ?_)
      refine callS0 (cells' := 12) (slots' := 76) (Wd := 0) (argsL := [(.ref r229), (.int 3), (.int (Int32.ofNat (ndg (mag x3)))), (.long (vabs x3)), (.int 1)]) (rest := []) (pay_of (a0 := a0) (c_digok1 l G r229 (3 : Int32) (Int32.ofNat (ndg (mag x3))) (vabs x3) x3 3 ([(x0 &&& (255 : Int32)), (58 : Int32)] ++ rep x3) h237 O241 S240 rfl rfl rfl (dgt_n (sg_n cz231) rfl) (by decide) (lenN_n (sg_n cz231) rfl)) (wk G 208) (wk G 180)) (wk G 206) (wk G 207) (wk G 180) (wk G 208) pd28 (sz hml) all0 sf00 (D at_266) (k_v 269 rfl ?_)
      rintro _ h242 rfl K243
      refine go_ifF 272 (D at_269) rfl (by decide) ?_
      refine go_aload 274 (D at_272) rfl rfl rfl ?_
      refine go_iload 276 (D at_274) rfl rfl ?_
      refine go_iload 278 (D at_276) rfl rfl ?_
      refine go_lload 280 (D at_278) rfl rfl ?_
      refine go_iconst 281 (v := 2) (D at_280) rfl rfl ?_
      have K244 : Keep h237 h242 [] := ((Keep.refl h237 []).trans K243 all0)
      have S245 := (S240.keep K244)
      refine go_old (fun O246 => ?_)
      refine callS0 (cells' := 13) (slots' := 86) (Wd := 0) (argsL := [(.ref r229), (.int 3), (.int (Int32.ofNat (ndg (mag x3)))), (.long (vabs x3)), (.int 2)]) (rest := []) (pay_of (a0 := a0) (c_digok2 l G r229 (3 : Int32) (Int32.ofNat (ndg (mag x3))) (vabs x3) x3 3 ([(x0 &&& (255 : Int32)), (58 : Int32)] ++ rep x3) h242 O246 S245 rfl rfl rfl (dgt_n (sg_n cz231) rfl) (by decide) (lenN_n (sg_n cz231) rfl)) (wk G 208) (wk G 180)) (wk G 206) (wk G 207) (wk G 180) (wk G 208) pd28 (sz hml) all0 sf00 (D at_281) (k_v 284 rfl ?_)
      rintro _ h247 rfl K248
      refine go_ifF 287 (D at_284) rfl (by decide) ?_
      refine go_aload 289 (D at_287) rfl rfl rfl ?_
      refine go_iload 291 (D at_289) rfl rfl ?_
      refine go_iload 293 (D at_291) rfl rfl ?_
      refine go_lload 295 (D at_293) rfl rfl ?_
      refine go_iconst 296 (v := 3) (D at_295) rfl rfl ?_
      have K249 : Keep h242 h247 [] := ((Keep.refl h242 []).trans K248 all0)
      have S250 := (S245.keep K249)
      refine go_old (fun O251 => ?_)
      refine callS0 (cells' := 14) (slots' := 96) (Wd := 0) (argsL := [(.ref r229), (.int 3), (.int (Int32.ofNat (ndg (mag x3)))), (.long (vabs x3)), (.int 3)]) (rest := []) (pay_of (a0 := a0) (c_digok3 l G r229 (3 : Int32) (Int32.ofNat (ndg (mag x3))) (vabs x3) x3 3 ([(x0 &&& (255 : Int32)), (58 : Int32)] ++ rep x3) h247 O251 S250 rfl rfl rfl (dgt_n (sg_n cz231) rfl) (by decide) (lenN_n (sg_n cz231) rfl)) (wk G 208) (wk G 180)) (wk G 206) (wk G 207) (wk G 180) (wk G 208) pd28 (sz hml) all0 sf00 (D at_296) (k_v 299 rfl ?_)
      rintro _ h252 rfl K253
      refine go_ifF 302 (D at_299) rfl (by decide) ?_
      refine go_aload 304 (D at_302) rfl rfl rfl ?_
      refine go_iload 306 (D at_304) rfl rfl ?_
      refine go_iload 308 (D at_306) rfl rfl ?_
      refine go_lload 310 (D at_308) rfl rfl ?_
      refine go_iconst 311 (v := 4) (D at_310) rfl rfl ?_
      have K254 : Keep h247 h252 [] := ((Keep.refl h247 []).trans K253 all0)
      have S255 := (S250.keep K254)
      refine go_old (fun O256 => ?_)
      refine callS0 (cells' := 15) (slots' := 106) (Wd := 0) (argsL := [(.ref r229), (.int 3), (.int (Int32.ofNat (ndg (mag x3)))), (.long (vabs x3)), (.int 4)]) (rest := []) (pay_of (a0 := a0) (c_digok4 l G r229 (3 : Int32) (Int32.ofNat (ndg (mag x3))) (vabs x3) x3 3 ([(x0 &&& (255 : Int32)), (58 : Int32)] ++ rep x3) h252 O256 S255 rfl rfl rfl (dgt_n (sg_n cz231) rfl) (by decide) (lenN_n (sg_n cz231) rfl)) (wk G 208) (wk G 180)) (wk G 206) (wk G 207) (wk G 180) (wk G 208) pd28 (sz hml) all0 sf00 (D at_311) (k_v 314 rfl ?_)
      rintro _ h257 rfl K258
      refine go_ifF 317 (D at_314) rfl (by decide) ?_
      refine go_aload 319 (D at_317) rfl rfl rfl ?_
      refine go_iload 321 (D at_319) rfl rfl ?_
      refine go_iload 323 (D at_321) rfl rfl ?_
      refine go_lload 325 (D at_323) rfl rfl ?_
      refine go_iconst 326 (v := 5) (D at_325) rfl rfl ?_
      have K259 : Keep h252 h257 [] := ((Keep.refl h252 []).trans K258 all0)
      have S260 := (S255.keep K259)
      refine go_old (fun O261 => ?_)
      refine callS0 (cells' := 16) (slots' := 116) (Wd := 0) (argsL := [(.ref r229), (.int 3), (.int (Int32.ofNat (ndg (mag x3)))), (.long (vabs x3)), (.int 5)]) (rest := []) (pay_of (a0 := a0) (c_digok5 l G r229 (3 : Int32) (Int32.ofNat (ndg (mag x3))) (vabs x3) x3 3 ([(x0 &&& (255 : Int32)), (58 : Int32)] ++ rep x3) h257 O261 S260 rfl rfl rfl (dgt_n (sg_n cz231) rfl) (by decide) (lenN_n (sg_n cz231) rfl)) (wk G 208) (wk G 180)) (wk G 206) (wk G 207) (wk G 180) (wk G 208) pd28 (sz hml) all0 sf00 (D at_326) (k_v 329 rfl ?_)
      rintro _ h262 rfl K263
      refine go_ifF 332 (D at_329) rfl (by decide) ?_
      refine go_aload 334 (D at_332) rfl rfl rfl ?_
      refine go_iload 336 (D at_334) rfl rfl ?_
      refine go_iload 338 (D at_336) rfl rfl ?_
      refine go_lload 340 (D at_338) rfl rfl ?_
      refine go_bipush 342 (v := 6) (D at_340) rfl rfl ?_
      have K264 : Keep h257 h262 [] := ((Keep.refl h257 []).trans K263 all0)
      have S265 := (S260.keep K264)
      refine go_old (fun O266 => ?_)
      refine callS0 (cells' := 17) (slots' := 126) (Wd := 0) (argsL := [(.ref r229), (.int 3), (.int (Int32.ofNat (ndg (mag x3)))), (.long (vabs x3)), (.int 6)]) (rest := []) (pay_of (a0 := a0) (c_digok6 l G r229 (3 : Int32) (Int32.ofNat (ndg (mag x3))) (vabs x3) x3 3 ([(x0 &&& (255 : Int32)), (58 : Int32)] ++ rep x3) h262 O266 S265 rfl rfl rfl (dgt_n (sg_n cz231) rfl) (by decide) (lenN_n (sg_n cz231) rfl)) (wk G 208) (wk G 180)) (wk G 206) (wk G 207) (wk G 180) (wk G 208) pd28 (sz hml) all0 sf00 (D at_342) (k_v 345 rfl ?_)
      rintro _ h267 rfl K268
      refine go_ifF 348 (D at_345) rfl (by decide) ?_
      refine go_aload 350 (D at_348) rfl rfl rfl ?_
      refine go_iload 352 (D at_350) rfl rfl ?_
      refine go_iload 354 (D at_352) rfl rfl ?_
      refine go_lload 356 (D at_354) rfl rfl ?_
      refine go_bipush 358 (v := 7) (D at_356) rfl rfl ?_
      have K269 : Keep h262 h267 [] := ((Keep.refl h262 []).trans K268 all0)
      have S270 := (S265.keep K269)
      refine go_old (fun O271 => ?_)
      refine callS0 (cells' := 18) (slots' := 136) (Wd := 0) (argsL := [(.ref r229), (.int 3), (.int (Int32.ofNat (ndg (mag x3)))), (.long (vabs x3)), (.int 7)]) (rest := []) (pay_of (a0 := a0) (c_digok7 l G r229 (3 : Int32) (Int32.ofNat (ndg (mag x3))) (vabs x3) x3 3 ([(x0 &&& (255 : Int32)), (58 : Int32)] ++ rep x3) h267 O271 S270 rfl rfl rfl (dgt_n (sg_n cz231) rfl) (by decide) (lenN_n (sg_n cz231) rfl)) (wk G 208) (wk G 180)) (wk G 206) (wk G 207) (wk G 180) (wk G 208) pd28 (sz hml) all0 sf00 (D at_358) (k_v 361 rfl ?_)
      rintro _ h272 rfl K273
      refine go_ifF 364 (D at_361) rfl (by decide) ?_
      refine go_aload 366 (D at_364) rfl rfl rfl ?_
      refine go_iload 368 (D at_366) rfl rfl ?_
      refine go_iload 370 (D at_368) rfl rfl ?_
      refine go_lload 372 (D at_370) rfl rfl ?_
      refine go_bipush 374 (v := 8) (D at_372) rfl rfl ?_
      have K274 : Keep h267 h272 [] := ((Keep.refl h267 []).trans K273 all0)
      have S275 := (S270.keep K274)
      refine go_old (fun O276 => ?_)
      refine callS0 (cells' := 19) (slots' := 146) (Wd := 0) (argsL := [(.ref r229), (.int 3), (.int (Int32.ofNat (ndg (mag x3)))), (.long (vabs x3)), (.int 8)]) (rest := []) (pay_of (a0 := a0) (c_digok8 l G r229 (3 : Int32) (Int32.ofNat (ndg (mag x3))) (vabs x3) x3 3 ([(x0 &&& (255 : Int32)), (58 : Int32)] ++ rep x3) h272 O276 S275 rfl rfl rfl (dgt_n (sg_n cz231) rfl) (by decide) (lenN_n (sg_n cz231) rfl)) (wk G 208) (wk G 180)) (wk G 206) (wk G 207) (wk G 180) (wk G 208) pd28 (sz hml) all0 sf00 (D at_374) (k_v 377 rfl ?_)
      rintro _ h277 rfl K278
      refine go_ifF 380 (D at_377) rfl (by decide) ?_
      refine go_aload 382 (D at_380) rfl rfl rfl ?_
      refine go_iload 384 (D at_382) rfl rfl ?_
      refine go_iload 386 (D at_384) rfl rfl ?_
      refine go_lload 388 (D at_386) rfl rfl ?_
      refine go_bipush 390 (v := 9) (D at_388) rfl rfl ?_
      have K279 : Keep h272 h277 [] := ((Keep.refl h272 []).trans K278 all0)
      have S280 := (S275.keep K279)
      refine go_old (fun O281 => ?_)
      refine callS0 (cells' := 20) (slots' := 156) (Wd := 0) (argsL := [(.ref r229), (.int 3), (.int (Int32.ofNat (ndg (mag x3)))), (.long (vabs x3)), (.int 9)]) (rest := []) (pay_of (a0 := a0) (c_digok9 l G r229 (3 : Int32) (Int32.ofNat (ndg (mag x3))) (vabs x3) x3 3 ([(x0 &&& (255 : Int32)), (58 : Int32)] ++ rep x3) h277 O281 S280 rfl rfl rfl (dgt_n (sg_n cz231) rfl) (by decide) (lenN_n (sg_n cz231) rfl)) (wk G 208) (wk G 180)) (wk G 206) (wk G 207) (wk G 180) (wk G 208) pd28 (sz hml) all0 sf00 (D at_390) (k_v 393 rfl ?_)
      rintro _ h282 rfl K283
      refine go_ifF 396 (D at_393) rfl (by decide) ?_
      refine go_iconst 397 (v := 1) (D at_396) rfl rfl ?_
      refine go_goto 401 (D at_397) (by decide) rfl ?_
      have K284 : Keep h0 h206 [] := (K214.ext X209)
      have K285 : Keep h0 h218 [] := (K284.trans K219 (allS (Or.inr (Nat.le_trans K214.1 (Nat.le_of_eq g208))) all0))
      have K286 : Keep h0 h227 [] := (K285.trans K228 all0)
      have K287 : Keep h0 h237 [] := (K286.trans K238 all0)
      have K288 : Keep h0 h242 [] := (K287.trans K243 all0)
      have K289 : Keep h0 h247 [] := (K288.trans K248 all0)
      have K290 : Keep h0 h252 [] := (K289.trans K253 all0)
      have K291 : Keep h0 h257 [] := (K290.trans K258 all0)
      have K292 : Keep h0 h262 [] := (K291.trans K263 all0)
      have K293 : Keep h0 h267 [] := (K292.trans K268 all0)
      have K294 : Keep h0 h272 [] := (K293.trans K273 all0)
      have K295 : Keep h0 h277 [] := (K294.trans K278 all0)
      have K296 : Keep h0 h282 [] := (K295.trans K283 all0)
      refine go_ireturn hret hlk rfl (by simp) (D at_401) (by decide) (by decide) ⟨_, rfl, rfl⟩ K296
    · refine go_ifT 112 (D at_105) (by decide) rfl (XT.ll_ge_t cz231) ?_
      refine go_iconst 113 (v := 0) (D at_112) rfl rfl ?_
      refine go_istore 115 (ls' := #[vi x0, vi x1, vi x2, vi x3, vi 1, vi (x0 &&& (255 : Int32)), vi (x1 &&& (255 : Int32)), vr a181, vr a190, vr r229, .val (.long (x3.toInt64)), .second, vi 0, un, un]) (D at_113) rfl rfl ?_
      refine go_iload 117 (D at_115) rfl rfl ?_
      refine go_ifT 125 (D at_117) (by decide) rfl (by decide) ?_
      refine go_eqf (g' := mkF m_ 125 #[.val (.int x0), .val (.int x1), .val (.int x2), .val (.int x3), .val (.int 1), .val (.int (x0 &&& (255 : Int32))), .val (.int (x1 &&& (255 : Int32))), .val (.ref a181), .val (.ref a190), .val (.ref r229), .val (.long (vabs x3)), .second, .val (.int 0), .unset, .unset] []) (by rw [← vabs_p cz231]) ?_
      refine go_lload 127 (D at_125) rfl rfl ?_
      refine go_old (fun O297 => ?_)
      refine callS0 (cells' := 10) (slots' := 56) (Wd := 0) (argsL := [(.long (vabs x3))]) (rest := []) (pay_of (a0 := a0) (c_numdig l G (vabs x3) x3 h227 O297 rfl) (wk G 181) (wk G 180)) (wk G 178) (wk G 179) (wk G 180) (wk G 181) pd25 (sz hml) all0 sf00 (D at_127) (k_v 130 rfl ?_)
      rintro _ h298 ⟨r300, rfl, rfl, f301⟩ K299
      subst f301
      refine go_istore 132 (ls' := #[vi x0, vi x1, vi x2, vi x3, vi 1, vi (x0 &&& (255 : Int32)), vi (x1 &&& (255 : Int32)), vr a181, vr a190, vr r229, .val (.long (vabs x3)), .second, vi 0, vi (Int32.ofNat (ndg (mag x3))), un]) (D at_130) rfl rfl ?_
      refine go_iload 134 (D at_132) rfl rfl ?_
      refine go_iconst 135 (v := 1) (D at_134) rfl rfl ?_
      refine go_iadd 136 (z := (2 : Int32)) (D at_135) rfl (by decide) ?_
      refine go_iload 138 (D at_136) rfl rfl ?_
      refine go_ifT 145 (D at_138) (by decide) rfl (by decide) ?_
      refine go_iconst 146 (v := 0) (D at_145) rfl rfl ?_
      refine go_iadd 147 (z := (2 : Int32)) (D at_146) rfl (by decide) ?_
      refine go_istore 149 (ls' := #[vi x0, vi x1, vi x2, vi x3, vi 1, vi (x0 &&& (255 : Int32)), vi (x1 &&& (255 : Int32)), vr a181, vr a190, vr r229, .val (.long (vabs x3)), .second, vi 0, vi (Int32.ofNat (ndg (mag x3))), vi 2]) (D at_147) rfl rfl ?_
      refine go_aload 151 (D at_149) rfl rfl rfl ?_
      refine go_nullF 154 (D at_151) rfl ?_
      refine go_aload 156 (D at_154) rfl rfl rfl ?_
      refine callV0 (cells' := 10) (slots' := 56) (Wd := 0) (argsL := []) (rest := []) (pay_len G O297 (n := (Int32.ofNat ([(x0 &&& (255 : Int32)), (58 : Int32)] ++ rep x3).length)) f230 rfl (by decide) (by decide)) f230.exa (wk G 183) (wk G 76) (wk G 78) (wk G 78) (wk G 77) pd3 (sz hml) all0 sf00 (D at_156) (k_v 159 rfl ?_)
      rintro _ _ ⟨rfl, rfl⟩ -
      refine go_iload 161 (D at_159) rfl rfl ?_
      refine go_iload 163 (D at_161) rfl rfl ?_
      refine go_iadd 164 (z := (Int32.ofNat (2 + ndg (mag x3)))) (D at_163) rfl (ofn_add (n := 2) (by have := ndg_b (mag x3); omega)) ?_
      refine go_icT 169 (D at_164) (by decide) rfl (XT.ii_eq_t (len_p (sg_p cz231) rfl)) ?_
      refine go_iload 171 (D at_169) rfl rfl ?_
      refine go_iconst 172 (v := 1) (D at_171) rfl rfl ?_
      refine go_icF 175 (D at_172) rfl (by decide) ?_
      refine go_aload 177 (D at_175) rfl rfl rfl ?_
      refine go_iconst 178 (v := 0) (D at_177) rfl rfl ?_
      refine callV0 (cells' := 10) (slots' := 56) (Wd := 0) (argsL := [(.int 0)]) (rest := []) (pay_chr G O297 (i := 0) (c := (x0 &&& (255 : Int32))) f230 rfl (lt_app (nb rfl)) rfl (by decide) (by decide)) f230.exa (wk G 184) (wk G 185) (wk G 187) (wk G 187) (wk G 186) pd26 (sz hml) all0 sf00 (D at_178) (k_v 181 rfl ?_)
      rintro _ _ ⟨rfl, rfl⟩ -
      refine go_iload 183 (D at_181) rfl rfl ?_
      refine go_icT 188 (D at_183) (by decide) rfl (XT.ii_eq_t rfl) ?_
      refine go_iload 190 (D at_188) rfl rfl ?_
      refine go_iconst 191 (v := 2) (D at_190) rfl rfl ?_
      refine go_icT 207 (D at_191) (by decide) rfl (by decide) ?_
      refine go_aload 209 (D at_207) rfl rfl rfl ?_
      refine go_iload 211 (D at_209) rfl rfl ?_
      refine callV0 (cells' := 10) (slots' := 56) (Wd := 0) (argsL := [(.int 1)]) (rest := []) (pay_chr G O297 (i := 1) (c := (58 : Int32)) f230 rfl (lt_app (nb rfl)) rfl (by decide) (by decide)) f230.exa (wk G 184) (wk G 185) (wk G 187) (wk G 187) (wk G 186) pd26 (sz hml) all0 sf00 (D at_211) (k_v 214 rfl ?_)
      rintro _ _ ⟨rfl, rfl⟩ -
      refine go_bipush 216 (v := 58) (D at_214) rfl rfl ?_
      refine go_icT 221 (D at_216) (by decide) rfl (by decide) ?_
      refine go_iload 223 (D at_221) rfl rfl ?_
      refine go_ifT 242 (D at_223) (by decide) rfl (by decide) ?_
      refine go_aload 244 (D at_242) rfl rfl rfl ?_
      refine go_iload 246 (D at_244) rfl rfl ?_
      refine go_iload 248 (D at_246) rfl rfl ?_
      refine go_lload 250 (D at_248) rfl rfl ?_
      refine go_iconst 251 (v := 0) (D at_250) rfl rfl ?_
      refine callS0 (cells' := 11) (slots' := 66) (Wd := 0) (argsL := [(.ref r229), (.int 2), (.int (Int32.ofNat (ndg (mag x3)))), (.long (vabs x3)), (.int 0)]) (rest := []) (pay_of (a0 := a0) (c_digok0 l G r229 (2 : Int32) (Int32.ofNat (ndg (mag x3))) (vabs x3) x3 2 ([(x0 &&& (255 : Int32)), (58 : Int32)] ++ rep x3) h227 O297 f230 rfl rfl rfl (dgt_p (sg_p cz231) rfl) (by decide) (lenN_p (sg_p cz231) rfl)) (wk G 208) (wk G 180)) (wk G 206) (wk G 207) (wk G 180) (wk G 208) pd28 (sz hml) all0 sf00 (D at_251) (k_v 254 rfl ?_)
      rintro _ h302 rfl K303
      refine go_ifF 257 (D at_254) rfl (by decide) ?_
      refine go_aload 259 (D at_257) rfl rfl rfl ?_
      refine go_iload 261 (D at_259) rfl rfl ?_
      refine go_iload 263 (D at_261) rfl rfl ?_
      refine go_lload 265 (D at_263) rfl rfl ?_
      refine go_iconst 266 (v := 1) (D at_265) rfl rfl ?_
      have K304 : Keep h227 h302 [] := ((Keep.refl h227 []).trans K303 all0)
      have S305 := (f230.keep K304)
      refine go_old (fun O306 => ?_)
      refine callS0 (cells' := 12) (slots' := 76) (Wd := 0) (argsL := [(.ref r229), (.int 2), (.int (Int32.ofNat (ndg (mag x3)))), (.long (vabs x3)), (.int 1)]) (rest := []) (pay_of (a0 := a0) (c_digok1 l G r229 (2 : Int32) (Int32.ofNat (ndg (mag x3))) (vabs x3) x3 2 ([(x0 &&& (255 : Int32)), (58 : Int32)] ++ rep x3) h302 O306 S305 rfl rfl rfl (dgt_p (sg_p cz231) rfl) (by decide) (lenN_p (sg_p cz231) rfl)) (wk G 208) (wk G 180)) (wk G 206) (wk G 207) (wk G 180) (wk G 208) pd28 (sz hml) all0 sf00 (D at_266) (k_v 269 rfl ?_)
      rintro _ h307 rfl K308
      refine go_ifF 272 (D at_269) rfl (by decide) ?_
      refine go_aload 274 (D at_272) rfl rfl rfl ?_
      refine go_iload 276 (D at_274) rfl rfl ?_
      refine go_iload 278 (D at_276) rfl rfl ?_
      refine go_lload 280 (D at_278) rfl rfl ?_
      refine go_iconst 281 (v := 2) (D at_280) rfl rfl ?_
      have K309 : Keep h302 h307 [] := ((Keep.refl h302 []).trans K308 all0)
      have S310 := (S305.keep K309)
      refine go_old (fun O311 => ?_)
      refine callS0 (cells' := 13) (slots' := 86) (Wd := 0) (argsL := [(.ref r229), (.int 2), (.int (Int32.ofNat (ndg (mag x3)))), (.long (vabs x3)), (.int 2)]) (rest := []) (pay_of (a0 := a0) (c_digok2 l G r229 (2 : Int32) (Int32.ofNat (ndg (mag x3))) (vabs x3) x3 2 ([(x0 &&& (255 : Int32)), (58 : Int32)] ++ rep x3) h307 O311 S310 rfl rfl rfl (dgt_p (sg_p cz231) rfl) (by decide) (lenN_p (sg_p cz231) rfl)) (wk G 208) (wk G 180)) (wk G 206) (wk G 207) (wk G 180) (wk G 208) pd28 (sz hml) all0 sf00 (D at_281) (k_v 284 rfl ?_)
      rintro _ h312 rfl K313
      refine go_ifF 287 (D at_284) rfl (by decide) ?_
      refine go_aload 289 (D at_287) rfl rfl rfl ?_
      refine go_iload 291 (D at_289) rfl rfl ?_
      refine go_iload 293 (D at_291) rfl rfl ?_
      refine go_lload 295 (D at_293) rfl rfl ?_
      refine go_iconst 296 (v := 3) (D at_295) rfl rfl ?_
      have K314 : Keep h307 h312 [] := ((Keep.refl h307 []).trans K313 all0)
      have S315 := (S310.keep K314)
      refine go_old (fun O316 => ?_)
      refine callS0 (cells' := 14) (slots' := 96) (Wd := 0) (argsL := [(.ref r229), (.int 2), (.int (Int32.ofNat (ndg (mag x3)))), (.long (vabs x3)), (.int 3)]) (rest := []) (pay_of (a0 := a0) (c_digok3 l G r229 (2 : Int32) (Int32.ofNat (ndg (mag x3))) (vabs x3) x3 2 ([(x0 &&& (255 : Int32)), (58 : Int32)] ++ rep x3) h312 O316 S315 rfl rfl rfl (dgt_p (sg_p cz231) rfl) (by decide) (lenN_p (sg_p cz231) rfl)) (wk G 208) (wk G 180)) (wk G 206) (wk G 207) (wk G 180) (wk G 208) pd28 (sz hml) all0 sf00 (D at_296) (k_v 299 rfl ?_)
      rintro _ h317 rfl K318
      refine go_ifF 302 (D at_299) rfl (by decide) ?_
      refine go_aload 304 (D at_302) rfl rfl rfl ?_
      refine go_iload 306 (D at_304) rfl rfl ?_
      refine go_iload 308 (D at_306) rfl rfl ?_
      refine go_lload 310 (D at_308) rfl rfl ?_
      refine go_iconst 311 (v := 4) (D at_310) rfl rfl ?_
      have K319 : Keep h312 h317 [] := ((Keep.refl h312 []).trans K318 all0)
      have S320 := (S315.keep K319)
      refine go_old (fun O321 => ?_)
      refine callS0 (cells' := 15) (slots' := 106) (Wd := 0) (argsL := [(.ref r229), (.int 2), (.int (Int32.ofNat (ndg (mag x3)))), (.long (vabs x3)), (.int 4)]) (rest := []) (pay_of (a0 := a0) (c_digok4 l G r229 (2 : Int32) (Int32.ofNat (ndg (mag x3))) (vabs x3) x3 2 ([(x0 &&& (255 : Int32)), (58 : Int32)] ++ rep x3) h317 O321 S320 rfl rfl rfl (dgt_p (sg_p cz231) rfl) (by decide) (lenN_p (sg_p cz231) rfl)) (wk G 208) (wk G 180)) (wk G 206) (wk G 207) (wk G 180) (wk G 208) pd28 (sz hml) all0 sf00 (D at_311) (k_v 314 rfl ?_)
      rintro _ h322 rfl K323
      refine go_ifF 317 (D at_314) rfl (by decide) ?_
      refine go_aload 319 (D at_317) rfl rfl rfl ?_
      refine go_iload 321 (D at_319) rfl rfl ?_
      refine go_iload 323 (D at_321) rfl rfl ?_
      refine go_lload 325 (D at_323) rfl rfl ?_
      refine go_iconst 326 (v := 5) (D at_325) rfl rfl ?_
      have K324 : Keep h317 h322 [] := ((Keep.refl h317 []).trans K323 all0)
      have S325 := (S320.keep K324)
      refine go_old (fun O326 => ?_)
      refine callS0 (cells' := 16) (slots' := 116) (Wd := 0) (argsL := [(.ref r229), (.int 2), (.int (Int32.ofNat (ndg (mag x3)))), (.long (vabs x3)), (.int 5)]) (rest := []) (pay_of (a0 := a0) (c_digok5 l G r229 (2 : Int32) (Int32.ofNat (ndg (mag x3))) (vabs x3) x3 2 ([(x0 &&& (255 : Int32)), (58 : Int32)] ++ rep x3) h322 O326 S325 rfl rfl rfl (dgt_p (sg_p cz231) rfl) (by decide) (lenN_p (sg_p cz231) rfl)) (wk G 208) (wk G 180)) (wk G 206) (wk G 207) (wk G 180) (wk G 208) pd28 (sz hml) all0 sf00 (D at_326) (k_v 329 rfl ?_)
      rintro _ h327 rfl K328
      refine go_ifF 332 (D at_329) rfl (by decide) ?_
      refine go_aload 334 (D at_332) rfl rfl rfl ?_
      refine go_iload 336 (D at_334) rfl rfl ?_
      refine go_iload 338 (D at_336) rfl rfl ?_
      refine go_lload 340 (D at_338) rfl rfl ?_
      refine go_bipush 342 (v := 6) (D at_340) rfl rfl ?_
      have K329 : Keep h322 h327 [] := ((Keep.refl h322 []).trans K328 all0)
      have S330 := (S325.keep K329)
      refine go_old (fun O331 => ?_)
      refine callS0 (cells' := 17) (slots' := 126) (Wd := 0) (argsL := [(.ref r229), (.int 2), (.int (Int32.ofNat (ndg (mag x3)))), (.long (vabs x3)), (.int 6)]) (rest := []) (pay_of (a0 := a0) (c_digok6 l G r229 (2 : Int32) (Int32.ofNat (ndg (mag x3))) (vabs x3) x3 2 ([(x0 &&& (255 : Int32)), (58 : Int32)] ++ rep x3) h327 O331 S330 rfl rfl rfl (dgt_p (sg_p cz231) rfl) (by decide) (lenN_p (sg_p cz231) rfl)) (wk G 208) (wk G 180)) (wk G 206) (wk G 207) (wk G 180) (wk G 208) pd28 (sz hml) all0 sf00 (D at_342) (k_v 345 rfl ?_)
      rintro _ h332 rfl K333
      refine go_ifF 348 (D at_345) rfl (by decide) ?_
      refine go_aload 350 (D at_348) rfl rfl rfl ?_
      refine go_iload 352 (D at_350) rfl rfl ?_
      refine go_iload 354 (D at_352) rfl rfl ?_
      refine go_lload 356 (D at_354) rfl rfl ?_
      refine go_bipush 358 (v := 7) (D at_356) rfl rfl ?_
      have K334 : Keep h327 h332 [] := ((Keep.refl h327 []).trans K333 all0)
      have S335 := (S330.keep K334)
      refine go_old (fun O336 => ?_)
      refine callS0 (cells' := 18) (slots' := 136) (Wd := 0) (argsL := [(.ref r229), (.int 2), (.int (Int32.ofNat (ndg (mag x3)))), (.long (vabs x3)), (.int 7)]) (rest := []) (pay_of (a0 := a0) (c_digok7 l G r229 (2 : Int32) (Int32.ofNat (ndg (mag x3))) (vabs x3) x3 2 ([(x0 &&& (255 : Int32)), (58 : Int32)] ++ rep x3) h332 O336 S335 rfl rfl rfl (dgt_p (sg_p cz231) rfl) (by decide) (lenN_p (sg_p cz231) rfl)) (wk G 208) (wk G 180)) (wk G 206) (wk G 207) (wk G 180) (wk G 208) pd28 (sz hml) all0 sf00 (D at_358) (k_v 361 rfl ?_)
      rintro _ h337 rfl K338
      refine go_ifF 364 (D at_361) rfl (by decide) ?_
      refine go_aload 366 (D at_364) rfl rfl rfl ?_
      refine go_iload 368 (D at_366) rfl rfl ?_
      refine go_iload 370 (D at_368) rfl rfl ?_
      refine go_lload 372 (D at_370) rfl rfl ?_
      refine go_bipush 374 (v := 8) (D at_372) rfl rfl ?_
      have K339 : Keep h332 h337 [] := ((Keep.refl h332 []).trans K338 all0)
      have S340 := (S335.keep K339)
      refine go_old (fun O341 => ?_)
      refine callS0 (cells' := 19) (slots' := 146) (Wd := 0) (argsL := [(.ref r229), (.int 2), (.int (Int32.ofNat (ndg (mag x3)))), (.long (vabs x3)), (.int 8)]) (rest := []) (pay_of (a0 := a0) (c_digok8 l G r229 (2 : Int32) (Int32.ofNat (ndg (mag x3))) (vabs x3) x3 2 ([(x0 &&& (255 : Int32)), (58 : Int32)] ++ rep x3) h337 O341 S340 rfl rfl rfl (dgt_p (sg_p cz231) rfl) (by decide) (lenN_p (sg_p cz231) rfl)) (wk G 208) (wk G 180)) (wk G 206) (wk G 207) (wk G 180) (wk G 208) pd28 (sz hml) all0 sf00 (D at_374) (k_v 377 rfl ?_)
      rintro _ h342 rfl K343
      refine go_ifF 380 (D at_377) rfl (by decide) ?_
      refine go_aload 382 (D at_380) rfl rfl rfl ?_
      refine go_iload 384 (D at_382) rfl rfl ?_
      refine go_iload 386 (D at_384) rfl rfl ?_
      refine go_lload 388 (D at_386) rfl rfl ?_
      refine go_bipush 390 (v := 9) (D at_388) rfl rfl ?_
      have K344 : Keep h337 h342 [] := ((Keep.refl h337 []).trans K343 all0)
      have S345 := (S340.keep K344)
      refine go_old (fun O346 => ?_)
      refine callS0 (cells' := 20) (slots' := 156) (Wd := 0) (argsL := [(.ref r229), (.int 2), (.int (Int32.ofNat (ndg (mag x3)))), (.long (vabs x3)), (.int 9)]) (rest := []) (pay_of (a0 := a0) (c_digok9 l G r229 (2 : Int32) (Int32.ofNat (ndg (mag x3))) (vabs x3) x3 2 ([(x0 &&& (255 : Int32)), (58 : Int32)] ++ rep x3) h342 O346 S345 rfl rfl rfl (dgt_p (sg_p cz231) rfl) (by decide) (lenN_p (sg_p cz231) rfl)) (wk G 208) (wk G 180)) (wk G 206) (wk G 207) (wk G 180) (wk G 208) pd28 (sz hml) all0 sf00 (D at_390) (k_v 393 rfl ?_)
      rintro _ h347 rfl K348
      refine go_ifF 396 (D at_393) rfl (by decide) ?_
      refine go_iconst 397 (v := 1) (D at_396) rfl rfl ?_
      refine go_goto 401 (D at_397) (by decide) rfl ?_
      have K349 : Keep h0 h206 [] := (K214.ext X209)
      have K350 : Keep h0 h218 [] := (K349.trans K219 (allS (Or.inr (Nat.le_trans K214.1 (Nat.le_of_eq g208))) all0))
      have K351 : Keep h0 h227 [] := (K350.trans K228 all0)
      have K352 : Keep h0 h302 [] := (K351.trans K303 all0)
      have K353 : Keep h0 h307 [] := (K352.trans K308 all0)
      have K354 : Keep h0 h312 [] := (K353.trans K313 all0)
      have K355 : Keep h0 h317 [] := (K354.trans K318 all0)
      have K356 : Keep h0 h322 [] := (K355.trans K323 all0)
      have K357 : Keep h0 h327 [] := (K356.trans K328 all0)
      have K358 : Keep h0 h332 [] := (K357.trans K333 all0)
      have K359 : Keep h0 h337 [] := (K358.trans K338 all0)
      have K360 : Keep h0 h342 [] := (K359.trans K343 all0)
      have K361 : Keep h0 h347 [] := (K360.trans K348 all0)
      refine go_ireturn hret hlk rfl (by simp) (D at_401) (by decide) (by decide) ⟨_, rfl, rfl⟩ K361
  · rw [q1]
    refine go_iload 26 (D at_24) rfl rfl ?_
    refine go_ifT 37 (D at_26) (by decide) rfl (by decide) ?_
    refine go_iload 39 (D at_37) rfl rfl ?_
    refine go_iconst 40 (v := 1) (D at_39) rfl rfl ?_
    refine go_icT 56 (D at_40) (by decide) rfl (by decide) ?_
    refine go_iconst 57 (v := 2) (D at_56) rfl rfl ?_
    refine go_newP 59 (cells' := 1) (slots' := 2) (cap := 2) (vs := [(.int 0), (.int 0)]) (ty := .char) (dv := .int 0) (wk G 1) rfl rfl (D at_57) rfl (by decide) rfl (by decide) rfl rfl rfl (by decide) (by decide) (fun h362 a363 k367 g364 X365 A366 => ?_)
    refine go_dup 60 (D at_59) rfl rfl ?_
    refine go_iconst 61 (v := 0) (D at_60) rfl rfl ?_
    refine go_iload 63 (D at_61) rfl rfl ?_
    refine go_stC 64 (i := 0) (x' := (x0 &&& (255 : Int32))) (vs' := [(.int (x0 &&& (255 : Int32))), (.int 0)]) A366 (Nat.le_trans O0.2.1 (Nat.le_of_eq g364)) (by decide) (by decide) rfl (nb rfl) (i2c_mask _) rfl (D at_63) rfl (fun h368 W369 A370 => ?_)
    refine go_dup 65 (D at_64) rfl rfl ?_
    refine go_iconst 66 (v := 1) (D at_65) rfl rfl ?_
    refine go_iload 68 (D at_66) rfl rfl ?_
    refine go_stC 69 (i := 1) (x' := (x1 &&& (255 : Int32))) (vs' := [(.int (x0 &&& (255 : Int32))), (.int (x1 &&& (255 : Int32)))]) A370 (Nat.le_trans O0.2.1 (Nat.le_of_eq g364)) (by decide) (by decide) rfl (nb rfl) (i2c_mask _) rfl (D at_68) rfl (fun h371 W372 A373 => ?_)
    refine go_astore 71 (ls' := #[vi x0, vi x1, vi x2, vi x3, vi 2, vi (x0 &&& (255 : Int32)), vi (x1 &&& (255 : Int32)), vr a363, un, un, un, un, un, un, un]) (D at_69) rfl rfl rfl ?_
    refine go_newO 74 (cells' := 2) (slots' := 6) (wk G 2) (wk G 3) (wk G 4) (D at_71) rfl rfl rfl (by decide) (by decide) (fun h374 a375 g376 X377 E378 D379 U380 => ?_)
    refine go_dup 75 (D at_74) rfl rfl ?_
    refine go_aload 77 (D at_75) rfl rfl rfl ?_
    have F381 := D379 (Or.inr (wk G 30)) (ty := (.array .byte)) (by decide)
    have F382 := D379 (Or.inr (wk G 28)) (ty := .byte) (by decide)
    have K383 : Keep h371 h374 [] := ((Keep.refl h371 []).ext X377)
    have A384 := (A373.keep K383 nin0)
    refine go_old (fun O385 => ?_)
    have K386 : Keep h0 h362 [] := ((Keep.refl h0 []).ext X365)
    have K387 : Keep h0 h368 [] := (K386.wr W369 (Or.inr (Nat.le_of_eq g364)))
    have K388 : Keep h0 h371 [] := (K387.wr W372 (Or.inr (Nat.le_of_eq g364)))
    refine callI0 (cells' := 3) (slots' := 8) (Wd := 1) (argsL := [(.ref a363)]) (rest := [(.ref a375)]) (pay_new G O385 (cs := [(x0 &&& (255 : Int32)), (x1 &&& (255 : Int32))]) (n := 2) (Nat.le_trans O0.2.1 (Nat.le_trans K388.1 (Nat.le_of_eq g376))) E378 F381 F382 A384 rfl rfl (by decide) (by decide) (c8c (c8_m _) (c8c (c8_m _) c8n)) (by decide) (by decide)) rfl (wk G 5) (wk G 6) (wk G 7) pd12 (sz hml) (allS (Nat.le_trans O0.2.1 (Nat.le_trans K388.1 (Nat.le_of_eq g376))) all0) (fun _ hal => (sfS (safe_null hal E378 F381) sf0)) (D at_77) (k_n 80 rfl ?_)
    rintro h389 S391 K390
    refine go_astore 82 (ls' := #[vi x0, vi x1, vi x2, vi x3, vi 2, vi (x0 &&& (255 : Int32)), vi (x1 &&& (255 : Int32)), vr a363, vr a375, un, un, un, un, un, un]) (D at_80) rfl rfl rfl ?_
    refine go_newO 85 (cells' := 4) (slots' := 10) (wk G 31) (wk G 32) (wk G 33) (D at_82) rfl rfl rfl (by decide) (by decide) (fun h392 a393 g394 X395 E396 D397 U398 => ?_)
    refine go_dup 86 (D at_85) rfl rfl ?_
    refine go_aload 88 (D at_86) rfl rfl rfl ?_
    refine go_iload_n 89 (D at_88) rfl rfl ?_
    have K399 : Keep h0 h374 [] := (K388.ext X377)
    have K400 : Keep h0 h389 [] := (K399.trans K390 (allS (Or.inr (Nat.le_trans K388.1 (Nat.le_of_eq g376))) all0))
    have F401 := D397 (Or.inr (wk G 39)) (ty := (.object "java/lang/String")) (by decide)
    have F402 := D397 (Or.inr (wk G 41)) (ty := .int) (by decide)
    refine go_old (fun O403 => ?_)
    refine callI0 (cells' := 4) (slots' := 10) (Wd := 1) (argsL := [(.ref a375), (.int x3)]) (rest := [(.ref a393)]) (pay_of (a0 := a0) (c_hpinit l G a393 a375 x3 h392 O403 E396 (Nat.le_trans O0.2.1 (Nat.le_trans K400.1 (Nat.le_of_eq g394))) F401 F402) (wk G 36) (wk G 33)) rfl (wk G 34) (wk G 35) (wk G 36) pd13 (sz hml) (allS (Nat.le_trans O0.2.1 (Nat.le_trans K400.1 (Nat.le_of_eq g394))) all0) (fun _ hal => (sfS (Safe.exa hal E396 (by decide) (by decide)) sf0)) (D at_89) (k_n 92 rfl ?_)
    rintro  h404 ⟨f406, f407⟩ K405
    have K408 : Keep h389 h392 [] := ((Keep.refl h389 []).ext X395)
    have K409 : Keep h389 h404 [] := (K408.trans K405 (allS (Or.inr (Nat.le_of_eq g394)) all0))
    have S410 := (S391.keep K409)
    refine go_old (fun O411 => ?_)
    have E412 := (E396.keep K405)
    refine callVW0 rfl (cells' := 10) (slots' := 58) (Wd := 0) (argsL := []) (rest := []) (payW_of (a0 := a0) (c_hpts2 l G a393 a375 x3 (x0 &&& (255 : Int32)) (x1 &&& (255 : Int32)) h404 O411 f406 f407 S410) (wk G 46) (wk G 33) (ew1 G)) E412 (wk G 42) (wk G 43) (wk G 45) (wk G 45) (wk G 44) pd24 (sz hml) all0 (D at_92) (k_v 95 rfl ?_)
    rintro _ h413 ⟨r415, rfl, f416⟩ K414
    refine go_astore 97 (ls' := #[vi x0, vi x1, vi x2, vi x3, vi 2, vi (x0 &&& (255 : Int32)), vi (x1 &&& (255 : Int32)), vr a363, vr a375, vr r415, un, un, un, un, un]) (D at_95) rfl rfl rfl ?_
    refine go_iload_n 98 (D at_97) rfl rfl ?_
    refine go_i2l 99 (z := (x3.toInt64)) (D at_98) rfl rfl ?_
    refine go_lstore 101 (ls' := #[vi x0, vi x1, vi x2, vi x3, vi 2, vi (x0 &&& (255 : Int32)), vi (x1 &&& (255 : Int32)), vr a363, vr a375, vr r415, .val (.long (x3.toInt64)), .second, un, un, un]) (D at_99) rfl rfl ?_
    refine go_lload 103 (D at_101) rfl rfl ?_
    refine go_lconst 104 (v := 0) (D at_103) rfl rfl ?_
    refine go_lcmp 105 (D at_104) rfl ?_
    by_cases cz417 : (x3.toInt64) < (0 : Int64)
    · refine go_ifF 108 (D at_105) rfl (XT.ll_ge_f cz417) ?_
      refine go_iconst 109 (v := 1) (D at_108) rfl rfl ?_
      refine go_goto 113 (D at_109) (by decide) rfl ?_
      refine go_istore 115 (ls' := #[vi x0, vi x1, vi x2, vi x3, vi 2, vi (x0 &&& (255 : Int32)), vi (x1 &&& (255 : Int32)), vr a363, vr a375, vr r415, .val (.long (x3.toInt64)), .second, vi 1, un, un]) (D at_113) rfl rfl ?_
      refine go_iload 117 (D at_115) rfl rfl ?_
      refine go_ifF 120 (D at_117) rfl (by decide) ?_
      refine go_lload 122 (D at_120) rfl rfl ?_
      refine go_lneg 123 (z := (-(x3.toInt64))) (D at_122) rfl rfl ?_
      refine go_lstore 125 (ls' := #[vi x0, vi x1, vi x2, vi x3, vi 2, vi (x0 &&& (255 : Int32)), vi (x1 &&& (255 : Int32)), vr a363, vr a375, vr r415, .val (.long (-(x3.toInt64))), .second, vi 1, un, un]) (D at_123) rfl rfl ?_
      refine go_eqf (g' := mkF m_ 125 #[.val (.int x0), .val (.int x1), .val (.int x2), .val (.int x3), .val (.int 2), .val (.int (x0 &&& (255 : Int32))), .val (.int (x1 &&& (255 : Int32))), .val (.ref a363), .val (.ref a375), .val (.ref r415), .val (.long (vabs x3)), .second, .val (.int 1), .unset, .unset] []) (by rw [← vabs_n cz417]) ?_
      refine go_lload 127 (D at_125) rfl rfl ?_
      refine go_old (fun O418 => ?_)
      refine callS0 (cells' := 10) (slots' := 58) (Wd := 0) (argsL := [(.long (vabs x3))]) (rest := []) (pay_of (a0 := a0) (c_numdig l G (vabs x3) x3 h413 O418 rfl) (wk G 181) (wk G 180)) (wk G 178) (wk G 179) (wk G 180) (wk G 181) pd25 (sz hml) all0 sf00 (D at_127) (k_v 130 rfl ?_)
      rintro _ h419 ⟨r421, rfl, rfl, f422⟩ K420
      subst f422
      refine go_istore 132 (ls' := #[vi x0, vi x1, vi x2, vi x3, vi 2, vi (x0 &&& (255 : Int32)), vi (x1 &&& (255 : Int32)), vr a363, vr a375, vr r415, .val (.long (vabs x3)), .second, vi 1, vi (Int32.ofNat (ndg (mag x3))), un]) (D at_130) rfl rfl ?_
      refine go_iload 134 (D at_132) rfl rfl ?_
      refine go_iconst 135 (v := 1) (D at_134) rfl rfl ?_
      refine go_iadd 136 (z := (3 : Int32)) (D at_135) rfl (by decide) ?_
      refine go_iload 138 (D at_136) rfl rfl ?_
      refine go_ifF 141 (D at_138) rfl (by decide) ?_
      refine go_iconst 142 (v := 1) (D at_141) rfl rfl ?_
      refine go_goto 146 (D at_142) (by decide) rfl ?_
      refine go_iadd 147 (z := (4 : Int32)) (D at_146) rfl (by decide) ?_
      refine go_istore 149 (ls' := #[vi x0, vi x1, vi x2, vi x3, vi 2, vi (x0 &&& (255 : Int32)), vi (x1 &&& (255 : Int32)), vr a363, vr a375, vr r415, .val (.long (vabs x3)), .second, vi 1, vi (Int32.ofNat (ndg (mag x3))), vi 4]) (D at_147) rfl rfl ?_
      refine go_aload 151 (D at_149) rfl rfl rfl ?_
      refine go_nullF 154 (D at_151) rfl ?_
      refine go_aload 156 (D at_154) rfl rfl rfl ?_
      refine callV0 (cells' := 10) (slots' := 58) (Wd := 0) (argsL := []) (rest := []) (pay_len G O418 (n := (Int32.ofNat ([(x0 &&& (255 : Int32)), (x1 &&& (255 : Int32)), (58 : Int32)] ++ rep x3).length)) f416 rfl (by decide) (by decide)) f416.exa (wk G 183) (wk G 76) (wk G 78) (wk G 78) (wk G 77) pd3 (sz hml) all0 sf00 (D at_156) (k_v 159 rfl ?_)
      rintro _ _ ⟨rfl, rfl⟩ -
      refine go_iload 161 (D at_159) rfl rfl ?_
      refine go_iload 163 (D at_161) rfl rfl ?_
      refine go_iadd 164 (z := (Int32.ofNat (4 + ndg (mag x3)))) (D at_163) rfl (ofn_add (n := 4) (by have := ndg_b (mag x3); omega)) ?_
      refine go_icT 169 (D at_164) (by decide) rfl (XT.ii_eq_t (len_n (sg_n cz417) rfl)) ?_
      refine go_iload 171 (D at_169) rfl rfl ?_
      refine go_iconst 172 (v := 1) (D at_171) rfl rfl ?_
      refine go_icF 175 (D at_172) rfl (by decide) ?_
      refine go_aload 177 (D at_175) rfl rfl rfl ?_
      refine go_iconst 178 (v := 0) (D at_177) rfl rfl ?_
      refine callV0 (cells' := 10) (slots' := 58) (Wd := 0) (argsL := [(.int 0)]) (rest := []) (pay_chr G O418 (i := 0) (c := (x0 &&& (255 : Int32))) f416 rfl (lt_app (nb rfl)) rfl (by decide) (by decide)) f416.exa (wk G 184) (wk G 185) (wk G 187) (wk G 187) (wk G 186) pd26 (sz hml) all0 sf00 (D at_178) (k_v 181 rfl ?_)
      rintro _ _ ⟨rfl, rfl⟩ -
      refine go_iload 183 (D at_181) rfl rfl ?_
      refine go_icT 188 (D at_183) (by decide) rfl (XT.ii_eq_t rfl) ?_
      refine go_iload 190 (D at_188) rfl rfl ?_
      refine go_iconst 191 (v := 2) (D at_190) rfl rfl ?_
      refine go_icF 194 (D at_191) rfl (by decide) ?_
      refine go_aload 196 (D at_194) rfl rfl rfl ?_
      refine go_iconst 197 (v := 1) (D at_196) rfl rfl ?_
      refine callV0 (cells' := 10) (slots' := 58) (Wd := 0) (argsL := [(.int 1)]) (rest := []) (pay_chr G O418 (i := 1) (c := (x1 &&& (255 : Int32))) f416 rfl (lt_app (nb rfl)) rfl (by decide) (by decide)) f416.exa (wk G 184) (wk G 185) (wk G 187) (wk G 187) (wk G 186) pd26 (sz hml) all0 sf00 (D at_197) (k_v 200 rfl ?_)
      rintro _ _ ⟨rfl, rfl⟩ -
      refine go_iload 202 (D at_200) rfl rfl ?_
      refine go_icT 207 (D at_202) (by decide) rfl (XT.ii_eq_t rfl) ?_
      refine go_aload 209 (D at_207) rfl rfl rfl ?_
      refine go_iload 211 (D at_209) rfl rfl ?_
      refine callV0 (cells' := 10) (slots' := 58) (Wd := 0) (argsL := [(.int 2)]) (rest := []) (pay_chr G O418 (i := 2) (c := (58 : Int32)) f416 rfl (lt_app (nb rfl)) rfl (by decide) (by decide)) f416.exa (wk G 184) (wk G 185) (wk G 187) (wk G 187) (wk G 186) pd26 (sz hml) all0 sf00 (D at_211) (k_v 214 rfl ?_)
      rintro _ _ ⟨rfl, rfl⟩ -
      refine go_bipush 216 (v := 58) (D at_214) rfl rfl ?_
      refine go_icT 221 (D at_216) (by decide) rfl (by decide) ?_
      refine go_iload 223 (D at_221) rfl rfl ?_
      refine go_ifF 226 (D at_223) rfl (by decide) ?_
      refine go_aload 228 (D at_226) rfl rfl rfl ?_
      refine go_iload 230 (D at_228) rfl rfl ?_
      refine go_iconst 231 (v := 1) (D at_230) rfl rfl ?_
      refine go_iadd 232 (z := (3 : Int32)) (D at_231) rfl (by decide) ?_
      refine callV0 (cells' := 10) (slots' := 58) (Wd := 0) (argsL := [(.int 3)]) (rest := []) (pay_chr G O418 (i := 3) (c := (45 : Int32)) f416 rfl (lt_app (nb rfl)) (gd_of (get_m (hs := [(x0 &&& (255 : Int32)), (x1 &&& (255 : Int32)), (58 : Int32)]) (sg_n cz417))) (by decide) (by decide)) f416.exa (wk G 184) (wk G 185) (wk G 187) (wk G 187) (wk G 186) pd26 (sz hml) all0 sf00 (D at_232) (k_v 235 rfl ?_)
      rintro _ _ ⟨rfl, rfl⟩ -
      refine go_bipush 237 (v := 45) (D at_235) rfl rfl ?_
      refine go_icT 242 (D at_237) (by decide) rfl (by decide) ?_
      refine go_aload 244 (D at_242) rfl rfl rfl ?_
      refine go_iload 246 (D at_244) rfl rfl ?_
      refine go_iload 248 (D at_246) rfl rfl ?_
      refine go_lload 250 (D at_248) rfl rfl ?_
      refine go_iconst 251 (v := 0) (D at_250) rfl rfl ?_
      refine callS0 (cells' := 11) (slots' := 68) (Wd := 0) (argsL := [(.ref r415), (.int 4), (.int (Int32.ofNat (ndg (mag x3)))), (.long (vabs x3)), (.int 0)]) (rest := []) (pay_of (a0 := a0) (c_digok0 l G r415 (4 : Int32) (Int32.ofNat (ndg (mag x3))) (vabs x3) x3 4 ([(x0 &&& (255 : Int32)), (x1 &&& (255 : Int32)), (58 : Int32)] ++ rep x3) h413 O418 f416 rfl rfl rfl (dgt_n (sg_n cz417) rfl) (by decide) (lenN_n (sg_n cz417) rfl)) (wk G 208) (wk G 180)) (wk G 206) (wk G 207) (wk G 180) (wk G 208) pd28 (sz hml) all0 sf00 (D at_251) (k_v 254 rfl ?_)
      rintro _ h423 rfl K424
      refine go_ifF 257 (D at_254) rfl (by decide) ?_
      refine go_aload 259 (D at_257) rfl rfl rfl ?_
      refine go_iload 261 (D at_259) rfl rfl ?_
      refine go_iload 263 (D at_261) rfl rfl ?_
      refine go_lload 265 (D at_263) rfl rfl ?_
      refine go_iconst 266 (v := 1) (D at_265) rfl rfl ?_
      have K425 : Keep h413 h423 [] := ((Keep.refl h413 []).trans K424 all0)
      have S426 := (f416.keep K425)
      refine go_old (fun O427 => ?_)
      refine callS0 (cells' := 12) (slots' := 78) (Wd := 0) (argsL := [(.ref r415), (.int 4), (.int (Int32.ofNat (ndg (mag x3)))), (.long (vabs x3)), (.int 1)]) (rest := []) (pay_of (a0 := a0) (c_digok1 l G r415 (4 : Int32) (Int32.ofNat (ndg (mag x3))) (vabs x3) x3 4 ([(x0 &&& (255 : Int32)), (x1 &&& (255 : Int32)), (58 : Int32)] ++ rep x3) h423 O427 S426 rfl rfl rfl (dgt_n (sg_n cz417) rfl) (by decide) (lenN_n (sg_n cz417) rfl)) (wk G 208) (wk G 180)) (wk G 206) (wk G 207) (wk G 180) (wk G 208) pd28 (sz hml) all0 sf00 (D at_266) (k_v 269 rfl ?_)
      rintro _ h428 rfl K429
      refine go_ifF 272 (D at_269) rfl (by decide) ?_
      refine go_aload 274 (D at_272) rfl rfl rfl ?_
      refine go_iload 276 (D at_274) rfl rfl ?_
      refine go_iload 278 (D at_276) rfl rfl ?_
      refine go_lload 280 (D at_278) rfl rfl ?_
      refine go_iconst 281 (v := 2) (D at_280) rfl rfl ?_
      have K430 : Keep h423 h428 [] := ((Keep.refl h423 []).trans K429 all0)
      have S431 := (S426.keep K430)
      refine go_old (fun O432 => ?_)
      refine callS0 (cells' := 13) (slots' := 88) (Wd := 0) (argsL := [(.ref r415), (.int 4), (.int (Int32.ofNat (ndg (mag x3)))), (.long (vabs x3)), (.int 2)]) (rest := []) (pay_of (a0 := a0) (c_digok2 l G r415 (4 : Int32) (Int32.ofNat (ndg (mag x3))) (vabs x3) x3 4 ([(x0 &&& (255 : Int32)), (x1 &&& (255 : Int32)), (58 : Int32)] ++ rep x3) h428 O432 S431 rfl rfl rfl (dgt_n (sg_n cz417) rfl) (by decide) (lenN_n (sg_n cz417) rfl)) (wk G 208) (wk G 180)) (wk G 206) (wk G 207) (wk G 180) (wk G 208) pd28 (sz hml) all0 sf00 (D at_281) (k_v 284 rfl ?_)
      rintro _ h433 rfl K434
      refine go_ifF 287 (D at_284) rfl (by decide) ?_
      refine go_aload 289 (D at_287) rfl rfl rfl ?_
      refine go_iload 291 (D at_289) rfl rfl ?_
      refine go_iload 293 (D at_291) rfl rfl ?_
      refine go_lload 295 (D at_293) rfl rfl ?_
      refine go_iconst 296 (v := 3) (D at_295) rfl rfl ?_
      have K435 : Keep h428 h433 [] := ((Keep.refl h428 []).trans K434 all0)
      have S436 := (S431.keep K435)
      refine go_old (fun O437 => ?_)
      refine callS0 (cells' := 14) (slots' := 98) (Wd := 0) (argsL := [(.ref r415), (.int 4), (.int (Int32.ofNat (ndg (mag x3)))), (.long (vabs x3)), (.int 3)]) (rest := []) (pay_of (a0 := a0) (c_digok3 l G r415 (4 : Int32) (Int32.ofNat (ndg (mag x3))) (vabs x3) x3 4 ([(x0 &&& (255 : Int32)), (x1 &&& (255 : Int32)), (58 : Int32)] ++ rep x3) h433 O437 S436 rfl rfl rfl (dgt_n (sg_n cz417) rfl) (by decide) (lenN_n (sg_n cz417) rfl)) (wk G 208) (wk G 180)) (wk G 206) (wk G 207) (wk G 180) (wk G 208) pd28 (sz hml) all0 sf00 (D at_296) (k_v 299 rfl ?_)
      rintro _ h438 rfl K439
      refine go_ifF 302 (D at_299) rfl (by decide) ?_
      refine go_aload 304 (D at_302) rfl rfl rfl ?_
      refine go_iload 306 (D at_304) rfl rfl ?_
      refine go_iload 308 (D at_306) rfl rfl ?_
      refine go_lload 310 (D at_308) rfl rfl ?_
      refine go_iconst 311 (v := 4) (D at_310) rfl rfl ?_
      have K440 : Keep h433 h438 [] := ((Keep.refl h433 []).trans K439 all0)
      have S441 := (S436.keep K440)
      refine go_old (fun O442 => ?_)
      refine callS0 (cells' := 15) (slots' := 108) (Wd := 0) (argsL := [(.ref r415), (.int 4), (.int (Int32.ofNat (ndg (mag x3)))), (.long (vabs x3)), (.int 4)]) (rest := []) (pay_of (a0 := a0) (c_digok4 l G r415 (4 : Int32) (Int32.ofNat (ndg (mag x3))) (vabs x3) x3 4 ([(x0 &&& (255 : Int32)), (x1 &&& (255 : Int32)), (58 : Int32)] ++ rep x3) h438 O442 S441 rfl rfl rfl (dgt_n (sg_n cz417) rfl) (by decide) (lenN_n (sg_n cz417) rfl)) (wk G 208) (wk G 180)) (wk G 206) (wk G 207) (wk G 180) (wk G 208) pd28 (sz hml) all0 sf00 (D at_311) (k_v 314 rfl ?_)
      rintro _ h443 rfl K444
      refine go_ifF 317 (D at_314) rfl (by decide) ?_
      refine go_aload 319 (D at_317) rfl rfl rfl ?_
      refine go_iload 321 (D at_319) rfl rfl ?_
      refine go_iload 323 (D at_321) rfl rfl ?_
      refine go_lload 325 (D at_323) rfl rfl ?_
      refine go_iconst 326 (v := 5) (D at_325) rfl rfl ?_
      have K445 : Keep h438 h443 [] := ((Keep.refl h438 []).trans K444 all0)
      have S446 := (S441.keep K445)
      refine go_old (fun O447 => ?_)
      refine callS0 (cells' := 16) (slots' := 118) (Wd := 0) (argsL := [(.ref r415), (.int 4), (.int (Int32.ofNat (ndg (mag x3)))), (.long (vabs x3)), (.int 5)]) (rest := []) (pay_of (a0 := a0) (c_digok5 l G r415 (4 : Int32) (Int32.ofNat (ndg (mag x3))) (vabs x3) x3 4 ([(x0 &&& (255 : Int32)), (x1 &&& (255 : Int32)), (58 : Int32)] ++ rep x3) h443 O447 S446 rfl rfl rfl (dgt_n (sg_n cz417) rfl) (by decide) (lenN_n (sg_n cz417) rfl)) (wk G 208) (wk G 180)) (wk G 206) (wk G 207) (wk G 180) (wk G 208) pd28 (sz hml) all0 sf00 (D at_326) (k_v 329 rfl ?_)
      rintro _ h448 rfl K449
      refine go_ifF 332 (D at_329) rfl (by decide) ?_
      refine go_aload 334 (D at_332) rfl rfl rfl ?_
      refine go_iload 336 (D at_334) rfl rfl ?_
      refine go_iload 338 (D at_336) rfl rfl ?_
      refine go_lload 340 (D at_338) rfl rfl ?_
      refine go_bipush 342 (v := 6) (D at_340) rfl rfl ?_
      have K450 : Keep h443 h448 [] := ((Keep.refl h443 []).trans K449 all0)
      have S451 := (S446.keep K450)
      refine go_old (fun O452 => ?_)
      refine callS0 (cells' := 17) (slots' := 128) (Wd := 0) (argsL := [(.ref r415), (.int 4), (.int (Int32.ofNat (ndg (mag x3)))), (.long (vabs x3)), (.int 6)]) (rest := []) (pay_of (a0 := a0) (c_digok6 l G r415 (4 : Int32) (Int32.ofNat (ndg (mag x3))) (vabs x3) x3 4 ([(x0 &&& (255 : Int32)), (x1 &&& (255 : Int32)), (58 : Int32)] ++ rep x3) h448 O452 S451 rfl rfl rfl (dgt_n (sg_n cz417) rfl) (by decide) (lenN_n (sg_n cz417) rfl)) (wk G 208) (wk G 180)) (wk G 206) (wk G 207) (wk G 180) (wk G 208) pd28 (sz hml) all0 sf00 (D at_342) (k_v 345 rfl ?_)
      rintro _ h453 rfl K454
      refine go_ifF 348 (D at_345) rfl (by decide) ?_
      refine go_aload 350 (D at_348) rfl rfl rfl ?_
      refine go_iload 352 (D at_350) rfl rfl ?_
      refine go_iload 354 (D at_352) rfl rfl ?_
      refine go_lload 356 (D at_354) rfl rfl ?_
      refine go_bipush 358 (v := 7) (D at_356) rfl rfl ?_
      have K455 : Keep h448 h453 [] := ((Keep.refl h448 []).trans K454 all0)
      have S456 := (S451.keep K455)
      refine go_old (fun O457 => ?_)
      refine callS0 (cells' := 18) (slots' := 138) (Wd := 0) (argsL := [(.ref r415), (.int 4), (.int (Int32.ofNat (ndg (mag x3)))), (.long (vabs x3)), (.int 7)]) (rest := []) (pay_of (a0 := a0) (c_digok7 l G r415 (4 : Int32) (Int32.ofNat (ndg (mag x3))) (vabs x3) x3 4 ([(x0 &&& (255 : Int32)), (x1 &&& (255 : Int32)), (58 : Int32)] ++ rep x3) h453 O457 S456 rfl rfl rfl (dgt_n (sg_n cz417) rfl) (by decide) (lenN_n (sg_n cz417) rfl)) (wk G 208) (wk G 180)) (wk G 206) (wk G 207) (wk G 180) (wk G 208) pd28 (sz hml) all0 sf00 (D at_358) (k_v 361 rfl ?_)
      rintro _ h458 rfl K459
      refine go_ifF 364 (D at_361) rfl (by decide) ?_
      refine go_aload 366 (D at_364) rfl rfl rfl ?_
      refine go_iload 368 (D at_366) rfl rfl ?_
      refine go_iload 370 (D at_368) rfl rfl ?_
      refine go_lload 372 (D at_370) rfl rfl ?_
      refine go_bipush 374 (v := 8) (D at_372) rfl rfl ?_
      have K460 : Keep h453 h458 [] := ((Keep.refl h453 []).trans K459 all0)
      have S461 := (S456.keep K460)
      refine go_old (fun O462 => ?_)
      refine callS0 (cells' := 19) (slots' := 148) (Wd := 0) (argsL := [(.ref r415), (.int 4), (.int (Int32.ofNat (ndg (mag x3)))), (.long (vabs x3)), (.int 8)]) (rest := []) (pay_of (a0 := a0) (c_digok8 l G r415 (4 : Int32) (Int32.ofNat (ndg (mag x3))) (vabs x3) x3 4 ([(x0 &&& (255 : Int32)), (x1 &&& (255 : Int32)), (58 : Int32)] ++ rep x3) h458 O462 S461 rfl rfl rfl (dgt_n (sg_n cz417) rfl) (by decide) (lenN_n (sg_n cz417) rfl)) (wk G 208) (wk G 180)) (wk G 206) (wk G 207) (wk G 180) (wk G 208) pd28 (sz hml) all0 sf00 (D at_374) (k_v 377 rfl ?_)
      rintro _ h463 rfl K464
      refine go_ifF 380 (D at_377) rfl (by decide) ?_
      refine go_aload 382 (D at_380) rfl rfl rfl ?_
      refine go_iload 384 (D at_382) rfl rfl ?_
      refine go_iload 386 (D at_384) rfl rfl ?_
      refine go_lload 388 (D at_386) rfl rfl ?_
      refine go_bipush 390 (v := 9) (D at_388) rfl rfl ?_
      have K465 : Keep h458 h463 [] := ((Keep.refl h458 []).trans K464 all0)
      have S466 := (S461.keep K465)
      refine go_old (fun O467 => ?_)
      refine callS0 (cells' := 20) (slots' := 158) (Wd := 0) (argsL := [(.ref r415), (.int 4), (.int (Int32.ofNat (ndg (mag x3)))), (.long (vabs x3)), (.int 9)]) (rest := []) (pay_of (a0 := a0) (c_digok9 l G r415 (4 : Int32) (Int32.ofNat (ndg (mag x3))) (vabs x3) x3 4 ([(x0 &&& (255 : Int32)), (x1 &&& (255 : Int32)), (58 : Int32)] ++ rep x3) h463 O467 S466 rfl rfl rfl (dgt_n (sg_n cz417) rfl) (by decide) (lenN_n (sg_n cz417) rfl)) (wk G 208) (wk G 180)) (wk G 206) (wk G 207) (wk G 180) (wk G 208) pd28 (sz hml) all0 sf00 (D at_390) (k_v 393 rfl ?_)
      rintro _ h468 rfl K469
      refine go_ifF 396 (D at_393) rfl (by decide) ?_
      refine go_iconst 397 (v := 1) (D at_396) rfl rfl ?_
      refine go_goto 401 (D at_397) (by decide) rfl ?_
      have K470 : Keep h0 h392 [] := (K400.ext X395)
      have K471 : Keep h0 h404 [] := (K470.trans K405 (allS (Or.inr (Nat.le_trans K400.1 (Nat.le_of_eq g394))) all0))
      have K472 : Keep h0 h413 [] := (K471.trans K414 all0)
      have K473 : Keep h0 h423 [] := (K472.trans K424 all0)
      have K474 : Keep h0 h428 [] := (K473.trans K429 all0)
      have K475 : Keep h0 h433 [] := (K474.trans K434 all0)
      have K476 : Keep h0 h438 [] := (K475.trans K439 all0)
      have K477 : Keep h0 h443 [] := (K476.trans K444 all0)
      have K478 : Keep h0 h448 [] := (K477.trans K449 all0)
      have K479 : Keep h0 h453 [] := (K478.trans K454 all0)
      have K480 : Keep h0 h458 [] := (K479.trans K459 all0)
      have K481 : Keep h0 h463 [] := (K480.trans K464 all0)
      have K482 : Keep h0 h468 [] := (K481.trans K469 all0)
      refine go_ireturn hret hlk rfl (by simp) (D at_401) (by decide) (by decide) ⟨_, rfl, rfl⟩ K482
    · refine go_ifT 112 (D at_105) (by decide) rfl (XT.ll_ge_t cz417) ?_
      refine go_iconst 113 (v := 0) (D at_112) rfl rfl ?_
      refine go_istore 115 (ls' := #[vi x0, vi x1, vi x2, vi x3, vi 2, vi (x0 &&& (255 : Int32)), vi (x1 &&& (255 : Int32)), vr a363, vr a375, vr r415, .val (.long (x3.toInt64)), .second, vi 0, un, un]) (D at_113) rfl rfl ?_
      refine go_iload 117 (D at_115) rfl rfl ?_
      refine go_ifT 125 (D at_117) (by decide) rfl (by decide) ?_
      refine go_eqf (g' := mkF m_ 125 #[.val (.int x0), .val (.int x1), .val (.int x2), .val (.int x3), .val (.int 2), .val (.int (x0 &&& (255 : Int32))), .val (.int (x1 &&& (255 : Int32))), .val (.ref a363), .val (.ref a375), .val (.ref r415), .val (.long (vabs x3)), .second, .val (.int 0), .unset, .unset] []) (by rw [← vabs_p cz417]) ?_
      refine go_lload 127 (D at_125) rfl rfl ?_
      refine go_old (fun O483 => ?_)
      refine callS0 (cells' := 10) (slots' := 58) (Wd := 0) (argsL := [(.long (vabs x3))]) (rest := []) (pay_of (a0 := a0) (c_numdig l G (vabs x3) x3 h413 O483 rfl) (wk G 181) (wk G 180)) (wk G 178) (wk G 179) (wk G 180) (wk G 181) pd25 (sz hml) all0 sf00 (D at_127) (k_v 130 rfl ?_)
      rintro _ h484 ⟨r486, rfl, rfl, f487⟩ K485
      subst f487
      refine go_istore 132 (ls' := #[vi x0, vi x1, vi x2, vi x3, vi 2, vi (x0 &&& (255 : Int32)), vi (x1 &&& (255 : Int32)), vr a363, vr a375, vr r415, .val (.long (vabs x3)), .second, vi 0, vi (Int32.ofNat (ndg (mag x3))), un]) (D at_130) rfl rfl ?_
      refine go_iload 134 (D at_132) rfl rfl ?_
      refine go_iconst 135 (v := 1) (D at_134) rfl rfl ?_
      refine go_iadd 136 (z := (3 : Int32)) (D at_135) rfl (by decide) ?_
      refine go_iload 138 (D at_136) rfl rfl ?_
      refine go_ifT 145 (D at_138) (by decide) rfl (by decide) ?_
      refine go_iconst 146 (v := 0) (D at_145) rfl rfl ?_
      refine go_iadd 147 (z := (3 : Int32)) (D at_146) rfl (by decide) ?_
      refine go_istore 149 (ls' := #[vi x0, vi x1, vi x2, vi x3, vi 2, vi (x0 &&& (255 : Int32)), vi (x1 &&& (255 : Int32)), vr a363, vr a375, vr r415, .val (.long (vabs x3)), .second, vi 0, vi (Int32.ofNat (ndg (mag x3))), vi 3]) (D at_147) rfl rfl ?_
      refine go_aload 151 (D at_149) rfl rfl rfl ?_
      refine go_nullF 154 (D at_151) rfl ?_
      refine go_aload 156 (D at_154) rfl rfl rfl ?_
      refine callV0 (cells' := 10) (slots' := 58) (Wd := 0) (argsL := []) (rest := []) (pay_len G O483 (n := (Int32.ofNat ([(x0 &&& (255 : Int32)), (x1 &&& (255 : Int32)), (58 : Int32)] ++ rep x3).length)) f416 rfl (by decide) (by decide)) f416.exa (wk G 183) (wk G 76) (wk G 78) (wk G 78) (wk G 77) pd3 (sz hml) all0 sf00 (D at_156) (k_v 159 rfl ?_)
      rintro _ _ ⟨rfl, rfl⟩ -
      refine go_iload 161 (D at_159) rfl rfl ?_
      refine go_iload 163 (D at_161) rfl rfl ?_
      refine go_iadd 164 (z := (Int32.ofNat (3 + ndg (mag x3)))) (D at_163) rfl (ofn_add (n := 3) (by have := ndg_b (mag x3); omega)) ?_
      refine go_icT 169 (D at_164) (by decide) rfl (XT.ii_eq_t (len_p (sg_p cz417) rfl)) ?_
      refine go_iload 171 (D at_169) rfl rfl ?_
      refine go_iconst 172 (v := 1) (D at_171) rfl rfl ?_
      refine go_icF 175 (D at_172) rfl (by decide) ?_
      refine go_aload 177 (D at_175) rfl rfl rfl ?_
      refine go_iconst 178 (v := 0) (D at_177) rfl rfl ?_
      refine callV0 (cells' := 10) (slots' := 58) (Wd := 0) (argsL := [(.int 0)]) (rest := []) (pay_chr G O483 (i := 0) (c := (x0 &&& (255 : Int32))) f416 rfl (lt_app (nb rfl)) rfl (by decide) (by decide)) f416.exa (wk G 184) (wk G 185) (wk G 187) (wk G 187) (wk G 186) pd26 (sz hml) all0 sf00 (D at_178) (k_v 181 rfl ?_)
      rintro _ _ ⟨rfl, rfl⟩ -
      refine go_iload 183 (D at_181) rfl rfl ?_
      refine go_icT 188 (D at_183) (by decide) rfl (XT.ii_eq_t rfl) ?_
      refine go_iload 190 (D at_188) rfl rfl ?_
      refine go_iconst 191 (v := 2) (D at_190) rfl rfl ?_
      refine go_icF 194 (D at_191) rfl (by decide) ?_
      refine go_aload 196 (D at_194) rfl rfl rfl ?_
      refine go_iconst 197 (v := 1) (D at_196) rfl rfl ?_
      refine callV0 (cells' := 10) (slots' := 58) (Wd := 0) (argsL := [(.int 1)]) (rest := []) (pay_chr G O483 (i := 1) (c := (x1 &&& (255 : Int32))) f416 rfl (lt_app (nb rfl)) rfl (by decide) (by decide)) f416.exa (wk G 184) (wk G 185) (wk G 187) (wk G 187) (wk G 186) pd26 (sz hml) all0 sf00 (D at_197) (k_v 200 rfl ?_)
      rintro _ _ ⟨rfl, rfl⟩ -
      refine go_iload 202 (D at_200) rfl rfl ?_
      refine go_icT 207 (D at_202) (by decide) rfl (XT.ii_eq_t rfl) ?_
      refine go_aload 209 (D at_207) rfl rfl rfl ?_
      refine go_iload 211 (D at_209) rfl rfl ?_
      refine callV0 (cells' := 10) (slots' := 58) (Wd := 0) (argsL := [(.int 2)]) (rest := []) (pay_chr G O483 (i := 2) (c := (58 : Int32)) f416 rfl (lt_app (nb rfl)) rfl (by decide) (by decide)) f416.exa (wk G 184) (wk G 185) (wk G 187) (wk G 187) (wk G 186) pd26 (sz hml) all0 sf00 (D at_211) (k_v 214 rfl ?_)
      rintro _ _ ⟨rfl, rfl⟩ -
      refine go_bipush 216 (v := 58) (D at_214) rfl rfl ?_
      refine go_icT 221 (D at_216) (by decide) rfl (by decide) ?_
      refine go_iload 223 (D at_221) rfl rfl ?_
      refine go_ifT 242 (D at_223) (by decide) rfl (by decide) ?_
      refine go_aload 244 (D at_242) rfl rfl rfl ?_
      refine go_iload 246 (D at_244) rfl rfl ?_
      refine go_iload 248 (D at_246) rfl rfl ?_
      refine go_lload 250 (D at_248) rfl rfl ?_
      refine go_iconst 251 (v := 0) (D at_250) rfl rfl ?_
      refine callS0 (cells' := 11) (slots' := 68) (Wd := 0) (argsL := [(.ref r415), (.int 3), (.int (Int32.ofNat (ndg (mag x3)))), (.long (vabs x3)), (.int 0)]) (rest := []) (pay_of (a0 := a0) (c_digok0 l G r415 (3 : Int32) (Int32.ofNat (ndg (mag x3))) (vabs x3) x3 3 ([(x0 &&& (255 : Int32)), (x1 &&& (255 : Int32)), (58 : Int32)] ++ rep x3) h413 O483 f416 rfl rfl rfl (dgt_p (sg_p cz417) rfl) (by decide) (lenN_p (sg_p cz417) rfl)) (wk G 208) (wk G 180)) (wk G 206) (wk G 207) (wk G 180) (wk G 208) pd28 (sz hml) all0 sf00 (D at_251) (k_v 254 rfl ?_)
      rintro _ h488 rfl K489
      refine go_ifF 257 (D at_254) rfl (by decide) ?_
      refine go_aload 259 (D at_257) rfl rfl rfl ?_
      refine go_iload 261 (D at_259) rfl rfl ?_
      refine go_iload 263 (D at_261) rfl rfl ?_
      refine go_lload 265 (D at_263) rfl rfl ?_
      refine go_iconst 266 (v := 1) (D at_265) rfl rfl ?_
      have K490 : Keep h413 h488 [] := ((Keep.refl h413 []).trans K489 all0)
      have S491 := (f416.keep K490)
      refine go_old (fun O492 => ?_)
      refine callS0 (cells' := 12) (slots' := 78) (Wd := 0) (argsL := [(.ref r415), (.int 3), (.int (Int32.ofNat (ndg (mag x3)))), (.long (vabs x3)), (.int 1)]) (rest := []) (pay_of (a0 := a0) (c_digok1 l G r415 (3 : Int32) (Int32.ofNat (ndg (mag x3))) (vabs x3) x3 3 ([(x0 &&& (255 : Int32)), (x1 &&& (255 : Int32)), (58 : Int32)] ++ rep x3) h488 O492 S491 rfl rfl rfl (dgt_p (sg_p cz417) rfl) (by decide) (lenN_p (sg_p cz417) rfl)) (wk G 208) (wk G 180)) (wk G 206) (wk G 207) (wk G 180) (wk G 208) pd28 (sz hml) all0 sf00 (D at_266) (k_v 269 rfl ?_)
      rintro _ h493 rfl K494
      refine go_ifF 272 (D at_269) rfl (by decide) ?_
      refine go_aload 274 (D at_272) rfl rfl rfl ?_
      refine go_iload 276 (D at_274) rfl rfl ?_
      refine go_iload 278 (D at_276) rfl rfl ?_
      refine go_lload 280 (D at_278) rfl rfl ?_
      refine go_iconst 281 (v := 2) (D at_280) rfl rfl ?_
      have K495 : Keep h488 h493 [] := ((Keep.refl h488 []).trans K494 all0)
      have S496 := (S491.keep K495)
      refine go_old (fun O497 => ?_)
      refine callS0 (cells' := 13) (slots' := 88) (Wd := 0) (argsL := [(.ref r415), (.int 3), (.int (Int32.ofNat (ndg (mag x3)))), (.long (vabs x3)), (.int 2)]) (rest := []) (pay_of (a0 := a0) (c_digok2 l G r415 (3 : Int32) (Int32.ofNat (ndg (mag x3))) (vabs x3) x3 3 ([(x0 &&& (255 : Int32)), (x1 &&& (255 : Int32)), (58 : Int32)] ++ rep x3) h493 O497 S496 rfl rfl rfl (dgt_p (sg_p cz417) rfl) (by decide) (lenN_p (sg_p cz417) rfl)) (wk G 208) (wk G 180)) (wk G 206) (wk G 207) (wk G 180) (wk G 208) pd28 (sz hml) all0 sf00 (D at_281) (k_v 284 rfl ?_)
      rintro _ h498 rfl K499
      refine go_ifF 287 (D at_284) rfl (by decide) ?_
      refine go_aload 289 (D at_287) rfl rfl rfl ?_
      refine go_iload 291 (D at_289) rfl rfl ?_
      refine go_iload 293 (D at_291) rfl rfl ?_
      refine go_lload 295 (D at_293) rfl rfl ?_
      refine go_iconst 296 (v := 3) (D at_295) rfl rfl ?_
      have K500 : Keep h493 h498 [] := ((Keep.refl h493 []).trans K499 all0)
      have S501 := (S496.keep K500)
      refine go_old (fun O502 => ?_)
      refine callS0 (cells' := 14) (slots' := 98) (Wd := 0) (argsL := [(.ref r415), (.int 3), (.int (Int32.ofNat (ndg (mag x3)))), (.long (vabs x3)), (.int 3)]) (rest := []) (pay_of (a0 := a0) (c_digok3 l G r415 (3 : Int32) (Int32.ofNat (ndg (mag x3))) (vabs x3) x3 3 ([(x0 &&& (255 : Int32)), (x1 &&& (255 : Int32)), (58 : Int32)] ++ rep x3) h498 O502 S501 rfl rfl rfl (dgt_p (sg_p cz417) rfl) (by decide) (lenN_p (sg_p cz417) rfl)) (wk G 208) (wk G 180)) (wk G 206) (wk G 207) (wk G 180) (wk G 208) pd28 (sz hml) all0 sf00 (D at_296) (k_v 299 rfl ?_)
      rintro _ h503 rfl K504
      refine go_ifF 302 (D at_299) rfl (by decide) ?_
      refine go_aload 304 (D at_302) rfl rfl rfl ?_
      refine go_iload 306 (D at_304) rfl rfl ?_
      refine go_iload 308 (D at_306) rfl rfl ?_
      refine go_lload 310 (D at_308) rfl rfl ?_
      refine go_iconst 311 (v := 4) (D at_310) rfl rfl ?_
      have K505 : Keep h498 h503 [] := ((Keep.refl h498 []).trans K504 all0)
      have S506 := (S501.keep K505)
      refine go_old (fun O507 => ?_)
      refine callS0 (cells' := 15) (slots' := 108) (Wd := 0) (argsL := [(.ref r415), (.int 3), (.int (Int32.ofNat (ndg (mag x3)))), (.long (vabs x3)), (.int 4)]) (rest := []) (pay_of (a0 := a0) (c_digok4 l G r415 (3 : Int32) (Int32.ofNat (ndg (mag x3))) (vabs x3) x3 3 ([(x0 &&& (255 : Int32)), (x1 &&& (255 : Int32)), (58 : Int32)] ++ rep x3) h503 O507 S506 rfl rfl rfl (dgt_p (sg_p cz417) rfl) (by decide) (lenN_p (sg_p cz417) rfl)) (wk G 208) (wk G 180)) (wk G 206) (wk G 207) (wk G 180) (wk G 208) pd28 (sz hml) all0 sf00 (D at_311) (k_v 314 rfl ?_)
      rintro _ h508 rfl K509
      refine go_ifF 317 (D at_314) rfl (by decide) ?_
      refine go_aload 319 (D at_317) rfl rfl rfl ?_
      refine go_iload 321 (D at_319) rfl rfl ?_
      refine go_iload 323 (D at_321) rfl rfl ?_
      refine go_lload 325 (D at_323) rfl rfl ?_
      refine go_iconst 326 (v := 5) (D at_325) rfl rfl ?_
      have K510 : Keep h503 h508 [] := ((Keep.refl h503 []).trans K509 all0)
      have S511 := (S506.keep K510)
      refine go_old (fun O512 => ?_)
      refine callS0 (cells' := 16) (slots' := 118) (Wd := 0) (argsL := [(.ref r415), (.int 3), (.int (Int32.ofNat (ndg (mag x3)))), (.long (vabs x3)), (.int 5)]) (rest := []) (pay_of (a0 := a0) (c_digok5 l G r415 (3 : Int32) (Int32.ofNat (ndg (mag x3))) (vabs x3) x3 3 ([(x0 &&& (255 : Int32)), (x1 &&& (255 : Int32)), (58 : Int32)] ++ rep x3) h508 O512 S511 rfl rfl rfl (dgt_p (sg_p cz417) rfl) (by decide) (lenN_p (sg_p cz417) rfl)) (wk G 208) (wk G 180)) (wk G 206) (wk G 207) (wk G 180) (wk G 208) pd28 (sz hml) all0 sf00 (D at_326) (k_v 329 rfl ?_)
      rintro _ h513 rfl K514
      refine go_ifF 332 (D at_329) rfl (by decide) ?_
      refine go_aload 334 (D at_332) rfl rfl rfl ?_
      refine go_iload 336 (D at_334) rfl rfl ?_
      refine go_iload 338 (D at_336) rfl rfl ?_
      refine go_lload 340 (D at_338) rfl rfl ?_
      refine go_bipush 342 (v := 6) (D at_340) rfl rfl ?_
      have K515 : Keep h508 h513 [] := ((Keep.refl h508 []).trans K514 all0)
      have S516 := (S511.keep K515)
      refine go_old (fun O517 => ?_)
      refine callS0 (cells' := 17) (slots' := 128) (Wd := 0) (argsL := [(.ref r415), (.int 3), (.int (Int32.ofNat (ndg (mag x3)))), (.long (vabs x3)), (.int 6)]) (rest := []) (pay_of (a0 := a0) (c_digok6 l G r415 (3 : Int32) (Int32.ofNat (ndg (mag x3))) (vabs x3) x3 3 ([(x0 &&& (255 : Int32)), (x1 &&& (255 : Int32)), (58 : Int32)] ++ rep x3) h513 O517 S516 rfl rfl rfl (dgt_p (sg_p cz417) rfl) (by decide) (lenN_p (sg_p cz417) rfl)) (wk G 208) (wk G 180)) (wk G 206) (wk G 207) (wk G 180) (wk G 208) pd28 (sz hml) all0 sf00 (D at_342) (k_v 345 rfl ?_)
      rintro _ h518 rfl K519
      refine go_ifF 348 (D at_345) rfl (by decide) ?_
      refine go_aload 350 (D at_348) rfl rfl rfl ?_
      refine go_iload 352 (D at_350) rfl rfl ?_
      refine go_iload 354 (D at_352) rfl rfl ?_
      refine go_lload 356 (D at_354) rfl rfl ?_
      refine go_bipush 358 (v := 7) (D at_356) rfl rfl ?_
      have K520 : Keep h513 h518 [] := ((Keep.refl h513 []).trans K519 all0)
      have S521 := (S516.keep K520)
      refine go_old (fun O522 => ?_)
      refine callS0 (cells' := 18) (slots' := 138) (Wd := 0) (argsL := [(.ref r415), (.int 3), (.int (Int32.ofNat (ndg (mag x3)))), (.long (vabs x3)), (.int 7)]) (rest := []) (pay_of (a0 := a0) (c_digok7 l G r415 (3 : Int32) (Int32.ofNat (ndg (mag x3))) (vabs x3) x3 3 ([(x0 &&& (255 : Int32)), (x1 &&& (255 : Int32)), (58 : Int32)] ++ rep x3) h518 O522 S521 rfl rfl rfl (dgt_p (sg_p cz417) rfl) (by decide) (lenN_p (sg_p cz417) rfl)) (wk G 208) (wk G 180)) (wk G 206) (wk G 207) (wk G 180) (wk G 208) pd28 (sz hml) all0 sf00 (D at_358) (k_v 361 rfl ?_)
      rintro _ h523 rfl K524
      refine go_ifF 364 (D at_361) rfl (by decide) ?_
      refine go_aload 366 (D at_364) rfl rfl rfl ?_
      refine go_iload 368 (D at_366) rfl rfl ?_
      refine go_iload 370 (D at_368) rfl rfl ?_
      refine go_lload 372 (D at_370) rfl rfl ?_
      refine go_bipush 374 (v := 8) (D at_372) rfl rfl ?_
      have K525 : Keep h518 h523 [] := ((Keep.refl h518 []).trans K524 all0)
      have S526 := (S521.keep K525)
      refine go_old (fun O527 => ?_)
      refine callS0 (cells' := 19) (slots' := 148) (Wd := 0) (argsL := [(.ref r415), (.int 3), (.int (Int32.ofNat (ndg (mag x3)))), (.long (vabs x3)), (.int 8)]) (rest := []) (pay_of (a0 := a0) (c_digok8 l G r415 (3 : Int32) (Int32.ofNat (ndg (mag x3))) (vabs x3) x3 3 ([(x0 &&& (255 : Int32)), (x1 &&& (255 : Int32)), (58 : Int32)] ++ rep x3) h523 O527 S526 rfl rfl rfl (dgt_p (sg_p cz417) rfl) (by decide) (lenN_p (sg_p cz417) rfl)) (wk G 208) (wk G 180)) (wk G 206) (wk G 207) (wk G 180) (wk G 208) pd28 (sz hml) all0 sf00 (D at_374) (k_v 377 rfl ?_)
      rintro _ h528 rfl K529
      refine go_ifF 380 (D at_377) rfl (by decide) ?_
      refine go_aload 382 (D at_380) rfl rfl rfl ?_
      refine go_iload 384 (D at_382) rfl rfl ?_
      refine go_iload 386 (D at_384) rfl rfl ?_
      refine go_lload 388 (D at_386) rfl rfl ?_
      refine go_bipush 390 (v := 9) (D at_388) rfl rfl ?_
      have K530 : Keep h523 h528 [] := ((Keep.refl h523 []).trans K529 all0)
      have S531 := (S526.keep K530)
      refine go_old (fun O532 => ?_)
      refine callS0 (cells' := 20) (slots' := 158) (Wd := 0) (argsL := [(.ref r415), (.int 3), (.int (Int32.ofNat (ndg (mag x3)))), (.long (vabs x3)), (.int 9)]) (rest := []) (pay_of (a0 := a0) (c_digok9 l G r415 (3 : Int32) (Int32.ofNat (ndg (mag x3))) (vabs x3) x3 3 ([(x0 &&& (255 : Int32)), (x1 &&& (255 : Int32)), (58 : Int32)] ++ rep x3) h528 O532 S531 rfl rfl rfl (dgt_p (sg_p cz417) rfl) (by decide) (lenN_p (sg_p cz417) rfl)) (wk G 208) (wk G 180)) (wk G 206) (wk G 207) (wk G 180) (wk G 208) pd28 (sz hml) all0 sf00 (D at_390) (k_v 393 rfl ?_)
      rintro _ h533 rfl K534
      refine go_ifF 396 (D at_393) rfl (by decide) ?_
      refine go_iconst 397 (v := 1) (D at_396) rfl rfl ?_
      refine go_goto 401 (D at_397) (by decide) rfl ?_
      have K535 : Keep h0 h392 [] := (K400.ext X395)
      have K536 : Keep h0 h404 [] := (K535.trans K405 (allS (Or.inr (Nat.le_trans K400.1 (Nat.le_of_eq g394))) all0))
      have K537 : Keep h0 h413 [] := (K536.trans K414 all0)
      have K538 : Keep h0 h488 [] := (K537.trans K489 all0)
      have K539 : Keep h0 h493 [] := (K538.trans K494 all0)
      have K540 : Keep h0 h498 [] := (K539.trans K499 all0)
      have K541 : Keep h0 h503 [] := (K540.trans K504 all0)
      have K542 : Keep h0 h508 [] := (K541.trans K509 all0)
      have K543 : Keep h0 h513 [] := (K542.trans K514 all0)
      have K544 : Keep h0 h518 [] := (K543.trans K519 all0)
      have K545 : Keep h0 h523 [] := (K544.trans K524 all0)
      have K546 : Keep h0 h528 [] := (K545.trans K529 all0)
      have K547 : Keep h0 h533 [] := (K546.trans K534 all0)
      refine go_ireturn hret hlk rfl (by simp) (D at_401) (by decide) (by decide) ⟨_, rfl, rfl⟩ K547
end CT
set_option maxRecDepth 65536 in
set_option maxHeartbeats 40000000 in
theorem comes_1 {Post : Tables → Env → Array Value → State → Outcome → State → Prop} (hpost : ∀ tb e args s v u, (limb_1_1.after args s (.returned v) u = true ∧ limb_1_2.after args s (.returned v) u = true ∧ True) → ReturnedEndW s (.returned v) u (Jvm.fieldLocs frame_1_writes args s ++ Jvm.arrayLocs frame_1_arrays args s ++ Jvm.staticLocs frame_1_statics s) 48 2432 → Post tb e args s (.returned v) u) :
    ArmFor flags0 classFile x code maxLocals ret World_1 tables_1 room_1 Calls_1 rest_1 Pre_1 Post := by
  intro l hfl _ _ p e ha hc hk s m args below hf hA hF happ hP
  obtain ⟨hcalls, hrest, hpre⟩ := hP
  obtain ⟨-, -, -, hnamed, -, -, -, hat⟩ := (Spec.applies_iff hf).mp happ
  obtain ⟨hg, hn⟩ := and_e (Cond.before_iff.mp (show (Jvm.Cond.and given_1 narrow_1).before args s = true from hpre))
  obtain ⟨h1, h2⟩ := and_e hg
  obtain ⟨w0, w1, w2, w3, rfl⟩ : ∃ w0 w1 w2 w3 : Value, args = #[w0, w1, w2, w3] := by
    have hs : args.size = 4 := by simpa [Cond.value, given_1] using h1
    obtain ⟨L⟩ := args
    match L, hs with
    | [w0, w1, w2, w3], _ => exact ⟨w0, w1, w2, w3, rfl⟩
  have hw := fun d (hd : d ∈ tables_1) => atoms_spec (ws := Jvm.Cond.code x code maxLocals ret :: tables_1) hat d (List.mem_cons_of_mem _ hd)
  obtain ⟨hsets, hown0⟩ := atoms_of _ (rest_1_c_eq ▸ (show rest_1_c.before _ s = true from hrest))
  have hfit : Fit s := fun {y c} hc i hi => by
    obtain ⟨ha, rfl⟩ := Array.getElem?_eq_some_iff.mp hc
    have q := List.all_eq_true.mp ((Array.all_eq_true_iff_forall_mem.mp hF) _ (Array.getElem_mem ha)) i (List.mem_range.mpr hi)
    simpa [Array.getElem?_eq_getElem hi] using q
  obtain ⟨q0, h2⟩ := and_e h2
  obtain ⟨i0, e0⟩ := is_v q0
  obtain rfl : w0 = (.int i0) := Option.some.inj e0
  obtain ⟨q1, h2⟩ := and_e h2
  obtain ⟨i1, e1⟩ := is_v q1
  obtain rfl : w1 = (.int i1) := Option.some.inj e1
  obtain ⟨q2, h2⟩ := and_e h2
  obtain ⟨i2, e2⟩ := is_v q2
  obtain rfl : w2 = (.int i2) := Option.some.inj e2
  have q3 := h2
  obtain ⟨i3, e3⟩ := is_v q3
  obtain rfl : w3 = (.int i3) := Option.some.inj e3
  have hew : EW s #[(.int i0), (.int i1), (.int i2), (.int i3)] EL1 := (EW.cons (hw _ (List.mem_of_getElem? (i := 112) rfl)) (by decide) (EW.cons (hw _ (List.mem_of_getElem? (i := 222) rfl)) (by decide) EW.nil))
  have G : GH s #[(.int i0), (.int i1), (.int i2), (.int i3)] := ⟨hw, hsets, hew, hn, hfit⟩
  obtain ⟨n, o, h1, h2, h3, v, L, rfl, ⟨⟨_, rfl, hv⟩, N, -⟩, hC, -⟩ := c_law l G i0 i1 i2 i3 s.heap (Old.start s) p e ha hc hk s m _ below hf ((Spec.applies_iff_loose hf).mp happ).1 ⟨rfl, State.Warmed39.refl s, rfl, (fun _ => CHv.start (a0 := _) hew (fun q hq => held_of (hcalls.1 q hq)) (hsets _ (List.mem_of_getElem? (i := 2) rfl)) (hw _ (List.mem_of_getElem? (i := 20) rfl)) (hw _ (List.mem_of_getElem? (i := 3) rfl)))⟩ trivial
  subst hv
  have hq := (hC rfl).2
  refine ⟨n, _, h1, h2, h3, hpost _ _ _ _ _ _ ⟨Cond.after_iff.mpr rfl, Cond.after_iff.mpr (eq_i res_at (Term.int_eval (1)) rfl), trivial⟩ ⟨hq.1, hq.2.1, hq.2.2.1, (hq.2.2.2.sift fun y hy => Or.inr (N y hy)).mono (by decide) (by decide)⟩⟩
theorem main_1_1 : Claimed_1_1 := comes_1 fun _ _ _ _ _ _ h hF => ⟨h.1, hF⟩
theorem main_1_2 : Claimed_1_2 := comes_1 fun _ _ _ _ _ _ h hF => ⟨h.2.1, hF⟩
end Jvm.Pilot.@@N@@
namespace Jvm.Pilot.@@N@@
open Jvm Jvm.ClassFile Sem Op Lib Jvm.Free Jvm.Stand Jvm.Pilot.@@N@@.Jvm.D
/-! MADE BY PROGRAM (witnessworld.py) out of the Statement's table words and the real class files: 30 classes; the members and pool entries that the words name. The judged class is class 1, her method 1. -/
namespace start1
open Jvm.ClassFile
def u (s : String) : CpInfo := .utf8 (stringToUtf16 s)
/-- a pool by its gaps: so many unusable entries, then the entry; so many at the end -/
def gap : Nat → List CpInfo → List CpInfo
  | 0, r => r
  | n + 1, r => .unusable :: gap n r
def poolList (es : List (Nat × CpInfo)) (last : Nat) : List CpInfo := es.foldr (fun e r => gap e.1 (e.2 :: r)) (gap last [])
def pool (es : List (Nat × CpInfo)) (last : Nat) : Array CpInfo := ⟨poolList es last⟩
def fileOf (pool : Array CpInfo) (this : Nat) (attrs : Array Attribute := #[]) (ms : Array MethodInfo := #[]) (fl : Nat := 33) (sup : Nat := 0) (ifs : Array Nat := #[]) (fds : Array FieldInfo := #[]) : ClassFile where
  minorVersion := 0
  majorVersion := 65
  constantPool := pool
  accessFlags := fl
  thisClass := this
  superClass := sup
  interfaces := ifs
  fields := fds
  methods := ms
  attributes := attrs
def plain (name : String) (sup : Option ClassId) : Class where
  name := name
  kind := .ordinary
  loader := none
  accessFlags := 33
  super := sup
  interfaces := #[]
  cf := none
  fields := #[]
  methods := #[]
  instanceTypes := #[]
  staticTypes := #[]
  resolved := #[]
  callSites := []
  init := .initialized
  statics := none
  mirror := none

def pool0 : Array CpInfo := pool [(5, u "<init>"), (0, u "()V"), (1, .class_ 10), (1, u "java/lang/Object")] 113

def k0c0 : Code := { maxStack := 0, maxLocals := 1, code := object_method_1_code, exceptionTable := #[], attributes := #[] }
def k0m0 : Method := { name := "<init>", desc := "()V", sig := { parameters := [], returnType := none }, accessFlags := 1, code := some k0c0 }
/-- java/lang/Object -/
def k0 : Class := { plain "java/lang/Object" none with
  accessFlags := 33
  interfaces := #[]
  cf := some (fileOf pool0 8 #[] #[{ accessFlags := 1, nameIndex := 5, descriptorIndex := 6, attributes := #[] }] 33 0 #[] #[])
  fields := #[]
  methods := #[k0m0]
  instanceTypes := #[]
  staticTypes := #[]
  resolved := Array.replicate 124 none
  statics := none }

def pool1 : Array CpInfo := pool [(2, .class_ 4), (1, u "java/lang/Object"), (0, u "<init>"), (0, u "()V"), (0, .integer 2147483647), (0, .class_ 9), (0, u "java/lang/String"), (0, .methodref 8 11), (0, .nameAndType 5 12), (0, u "([C)V"), (0, .class_ 14), (0, u "com/example/onceward/onceward/HostPort"), (0, .methodref 13 16), (0, .nameAndType 5 17), (0, u "(Ljava/lang/String;I)V"), (0, .methodref 13 19), (0, .nameAndType 20 21), (0, u "toString"), (0, u "()Ljava/lang/String;"), (0, .methodref 23 24), (0, .class_ 25), (0, .nameAndType 26 27), (0, u "com/example/onceward/onceward/HostPortToStringPinLaw"), (0, u "numDigits"), (0, u "(J)I"), (0, .methodref 8 29), (0, .nameAndType 30 31), (0, u "length"), (0, u "()I"), (0, .methodref 8 33), (0, .nameAndType 34 35), (0, u "charAt"), (0, u "(I)C"), (0, .methodref 23 37), (0, .nameAndType 38 39), (0, u "digitOk"), (0, u "(Ljava/lang/String;IIJI)Z"), (0, .long 10), (1, .long 100), (1, .long 1000), (1, .long 10000), (1, .long 100000), (1, .long 1000000), (1, .long 10000000), (1, .long 100000000), (1, .long 1000000000), (1, .methodref 23 59), (0, .nameAndType 60 61), (0, u "pow10"), (0, u "(I)J"), (2, u "law"), (0, u "(IIII)Z")] 5

def k1m0 : Method := { name := "<init>", desc := "()V", sig := { parameters := [], returnType := none }, accessFlags := 1, code := none }
def k1c1 : Code := { maxStack := 6, maxLocals := 15, code := code, exceptionTable := #[], attributes := #[] }
def k1m1 : Method := { name := "law", desc := "(IIII)Z", sig := { parameters := [.int, .int, .int, .int], returnType := some .boolean }, accessFlags := 9, code := some k1c1 }
def k1c2 : Code := { maxStack := 4, maxLocals := 2, code := method_3_code, exceptionTable := #[], attributes := #[] }
def k1m2 : Method := { name := "numDigits", desc := "(J)I", sig := { parameters := [.long], returnType := some .int }, accessFlags := 10, code := some k1c2 }
def k1c3 : Code := { maxStack := 5, maxLocals := 2, code := method_4_code, exceptionTable := #[], attributes := #[] }
def k1m3 : Method := { name := "pow10", desc := "(I)J", sig := { parameters := [.int], returnType := some .long }, accessFlags := 10, code := some k1c3 }
def k1c4 : Code := { maxStack := 4, maxLocals := 9, code := method_5_code, exceptionTable := #[], attributes := #[] }
def k1m4 : Method := { name := "digitOk", desc := "(Ljava/lang/String;IIJI)Z", sig := { parameters := [(.object "java/lang/String"), .int, .int, .long, .int], returnType := some .boolean }, accessFlags := 10, code := some k1c4 }
/-- com/example/onceward/onceward/HostPortToStringPinLaw -/
def k1 : Class := { plain "com/example/onceward/onceward/HostPortToStringPinLaw" (some 0) with
  accessFlags := 49
  interfaces := #[]
  cf := some (fileOf pool1 23 #[] #[{ accessFlags := 1, nameIndex := 5, descriptorIndex := 6, attributes := #[] }, { accessFlags := 9, nameIndex := 64, descriptorIndex := 65, attributes := #[] }, { accessFlags := 10, nameIndex := 26, descriptorIndex := 27, attributes := #[] }, { accessFlags := 10, nameIndex := 60, descriptorIndex := 61, attributes := #[] }, { accessFlags := 10, nameIndex := 38, descriptorIndex := 39, attributes := #[] }] 49 2 #[] #[])
  fields := #[]
  methods := #[k1m0, k1m1, k1m2, k1m3, k1m4]
  instanceTypes := #[]
  staticTypes := #[]
  resolved := Array.replicate 71 none
  statics := none }

def pool2 : Array CpInfo := pool [(1, .class_ 2), (0, u "java/io/Serializable"), (0, .class_ 4), (0, u "java/lang/Object")] 2

/-- java/io/Serializable -/
def k2 : Class := { plain "java/io/Serializable" (some 0) with
  accessFlags := 1537
  interfaces := #[]
  cf := some (fileOf pool2 1 #[] #[] 1537 3 #[] #[])
  fields := #[]
  methods := #[]
  instanceTypes := #[]
  staticTypes := #[]
  resolved := Array.replicate 7 none
  statics := none }

def pool3 : Array CpInfo := pool [(1, .class_ 2), (0, u "java/lang/Comparable"), (0, .class_ 4), (0, u "java/lang/Object")] 7

/-- java/lang/Comparable -/
def k3 : Class := { plain "java/lang/Comparable" (some 0) with
  accessFlags := 1537
  interfaces := #[]
  cf := some (fileOf pool3 1 #[] #[] 1537 3 #[] #[])
  fields := #[]
  methods := #[]
  instanceTypes := #[]
  staticTypes := #[]
  resolved := Array.replicate 12 none
  statics := none }

def pool4 : Array CpInfo := pool [(2, .class_ 4), (1, u "java/lang/CharSequence"), (42, .class_ 48), (0, u "java/lang/CharSequence$1CodePointIterator"), (10, .class_ 60), (0, u "java/lang/CharSequence$1CharIterator"), (5, .class_ 67), (0, u "java/lang/Object")] 63

/-- java/lang/CharSequence -/
def k4 : Class := { plain "java/lang/CharSequence" (some 0) with
  accessFlags := 1537
  interfaces := #[]
  cf := some (fileOf pool4 2 #[.nestMembers #[47, 59]] #[] 1537 66 #[] #[])
  fields := #[]
  methods := #[]
  instanceTypes := #[]
  staticTypes := #[]
  resolved := Array.replicate 131 none
  statics := none }

def pool5 : Array CpInfo := pool [(1, .class_ 2), (0, u "java/lang/constant/Constable"), (0, .class_ 4), (0, u "java/lang/Object")] 6

/-- java/lang/constant/Constable -/
def k5 : Class := { plain "java/lang/constant/Constable" (some 0) with
  accessFlags := 1537
  interfaces := #[]
  cf := some (fileOf pool5 1 #[] #[] 1537 3 #[] #[])
  fields := #[]
  methods := #[]
  instanceTypes := #[]
  staticTypes := #[]
  resolved := Array.replicate 11 none
  statics := none }

def pool6 : Array CpInfo := pool [(1, .class_ 2), (0, u "java/lang/constant/ConstantDesc"), (0, .class_ 4), (0, u "java/lang/Object")] 32

/-- java/lang/constant/ConstantDesc -/
def k6 : Class := { plain "java/lang/constant/ConstantDesc" (some 0) with
  accessFlags := 1537
  interfaces := #[]
  cf := some (fileOf pool6 1 #[] #[] 1537 3 #[] #[])
  fields := #[]
  methods := #[]
  instanceTypes := #[]
  staticTypes := #[]
  resolved := Array.replicate 37 none
  statics := none }

def pool7 : Array CpInfo := pool [(1, .methodref 2 3), (0, .class_ 4), (0, .nameAndType 5 6), (0, u "java/lang/Object"), (0, u "<init>"), (0, u "()V"), (0, .string 8), (0, u ""), (0, .fieldref 10 11), (0, .class_ 12), (0, .nameAndType 13 14), (0, u "java/lang/String"), (0, u "value"), (0, u "[B"), (0, .fieldref 10 16), (0, .nameAndType 17 18), (0, u "coder"), (0, u "B"), (2, u "hash"), (0, u "I"), (2, u "hashIsZero"), (0, u "Z"), (0, .methodref 10 28), (0, .nameAndType 5 29), (0, u "([CIILjava/lang/Void;)V"), (8, .fieldref 10 39), (0, .nameAndType 40 26), (0, u "COMPACT_STRINGS"), (1, .class_ 44), (1, u "java/lang/StringUTF16"), (0, u "compress"), (1, .methodref 42 48), (0, .nameAndType 49 50), (0, u "coderFromArrayLen"), (0, u "([BI)B"), (3, .methodref 55 56), (0, .class_ 57), (0, .nameAndType 58 59), (0, u "java/util/Arrays"), (0, u "copyOfRange"), (0, u "([BII)[B"), (47, .class_ 109), (1, u "java/lang/StringLatin1"), (32, u "()Z"), (34, .methodref 42 178), (0, .nameAndType 45 179), (0, u "([CII)[B"), (13, .class_ 195), (1, u "java/lang/System"), (16, .methodref 193 213), (0, .nameAndType 214 215), (0, u "arraycopy"), (0, u "(Ljava/lang/Object;ILjava/lang/Object;II)V"), (118, u "()I"), (0, .methodref 10 336), (0, .nameAndType 17 337), (0, u "()B"), (2, u "()[B"), (22, u "([BI)C"), (27, u "(II)V"), (35, u "(I)C"), (61, .methodref 10 490), (0, .nameAndType 5 491), (0, u "(Ljava/lang/AbstractStringBuilder;Ljava/lang/Void;)V"), (0, .methodref 10 493), (0, .nameAndType 494 142), (0, u "isLatin1"), (0, .methodref 107 496), (0, .nameAndType 497 363), (0, u "charAt"), (3, u "checkIndex"), (4, .nameAndType 507 334), (0, u "length"), (24, u "getBytes"), (16, .methodref 550 506), (0, .class_ 551), (0, u "java/lang/AbstractStringBuilder"), (0, .methodref 550 553), (0, .nameAndType 554 340), (0, u "getValue"), (20, .class_ 576), (0, u "java/lang/CharSequence"), (22, u "CASE_INSENSITIVE_ORDER"), (0, u "Ljava/util/Comparator;"), (220, u "([BIB)V"), (188, u "([C)V"), (36, .methodref 550 493), (5, .fieldref 1054 1055), (0, .class_ 1056), (0, .nameAndType 1057 1058), (0, u "jdk/internal/util/Preconditions"), (0, u "SIOOBE_FORMATTER"), (0, u "Ljava/util/function/BiFunction;"), (0, .methodref 1054 1060), (0, .nameAndType 501 1061), (0, u "(IILjava/util/function/BiFunction;)I"), (39, u "serialPersistentFields"), (0, u "[Ljava/io/ObjectStreamField;"), (0, .class_ 1104), (0, u "java/lang/String$CaseInsensitiveComparator"), (1, .class_ 1107), (0, u "java/io/Serializable"), (0, .class_ 1109), (0, u "java/lang/Comparable"), (0, .class_ 1111), (0, u "java/lang/constant/Constable"), (0, .class_ 1113), (0, u "java/lang/constant/ConstantDesc"), (2, u "serialVersionUID"), (0, u "J"), (3, u "REPL"), (0, u "C"), (2, u "LATIN1"), (1, u "UTF16"), (105, u "(Ljava/lang/StringBuilder;)V")] 217

def k7m0 : Method := { name := "<init>", desc := "()V", sig := { parameters := [], returnType := none }, accessFlags := 1, code := none }
def k7c1 : Code := { maxStack := 5, maxLocals := 2, code := jdk_42_method_3_code, exceptionTable := #[], attributes := #[] }
def k7m1 : Method := { name := "<init>", desc := "([C)V", sig := { parameters := [(.array .char)], returnType := none }, accessFlags := 1, code := some k7c1 }
def k7c2 : Code := { maxStack := 3, maxLocals := 2, code := jdk_42_method_53_code, exceptionTable := #[], attributes := #[] }
def k7m2 : Method := { name := "<init>", desc := "(Ljava/lang/StringBuilder;)V", sig := { parameters := [(.object "java/lang/StringBuilder")], returnType := none }, accessFlags := 1, code := some k7c2 }
def k7c3 : Code := { maxStack := 2, maxLocals := 1, code := jdk_42_method_54_code, exceptionTable := #[], attributes := #[] }
def k7m3 : Method := { name := "length", desc := "()I", sig := { parameters := [], returnType := some .int }, accessFlags := 1, code := some k7c3 }
def k7c4 : Code := { maxStack := 2, maxLocals := 2, code := jdk_42_method_56_code, exceptionTable := #[], attributes := #[] }
def k7m4 : Method := { name := "charAt", desc := "(I)C", sig := { parameters := [.int], returnType := some .char }, accessFlags := 1, code := some k7c4 }
def k7c5 : Code := { maxStack := 5, maxLocals := 4, code := jdk_42_method_147_code, exceptionTable := #[], attributes := #[] }
def k7m5 : Method := { name := "getBytes", desc := "([BIB)V", sig := { parameters := [(.array .byte), .int, .byte], returnType := none }, accessFlags := 0, code := some k7c5 }
def k7c6 : Code := { maxStack := 4, maxLocals := 6, code := jdk_42_method_149_code, exceptionTable := #[], attributes := #[] }
def k7m6 : Method := { name := "<init>", desc := "([CIILjava/lang/Void;)V", sig := { parameters := [(.array .char), .int, .int, (.object "java/lang/Void")], returnType := none }, accessFlags := 2, code := some k7c6 }
def k7c7 : Code := { maxStack := 5, maxLocals := 5, code := jdk_42_method_150_code, exceptionTable := #[], attributes := #[] }
def k7m7 : Method := { name := "<init>", desc := "(Ljava/lang/AbstractStringBuilder;Ljava/lang/Void;)V", sig := { parameters := [(.object "java/lang/AbstractStringBuilder"), (.object "java/lang/Void")], returnType := none }, accessFlags := 0, code := some k7c7 }
def k7c8 : Code := { maxStack := 1, maxLocals := 1, code := jdk_42_method_152_code, exceptionTable := #[], attributes := #[] }
def k7m8 : Method := { name := "coder", desc := "()B", sig := { parameters := [], returnType := some .byte }, accessFlags := 0, code := some k7c8 }
def k7c9 : Code := { maxStack := 1, maxLocals := 1, code := jdk_42_method_154_code, exceptionTable := #[], attributes := #[] }
def k7m9 : Method := { name := "isLatin1", desc := "()Z", sig := { parameters := [], returnType := some .boolean }, accessFlags := 0, code := some k7c9 }
def k7c10 : Code := { maxStack := 3, maxLocals := 2, code := jdk_42_method_155_code, exceptionTable := #[], attributes := #[] }
def k7m10 : Method := { name := "checkIndex", desc := "(II)V", sig := { parameters := [.int, .int], returnType := none }, accessFlags := 8, code := some k7c10 }
/-- java/lang/String -/
def k7 : Class := { plain "java/lang/String" (some 0) with
  accessFlags := 49
  interfaces := #[2, 3, 4, 5, 6]
  cf := some (fileOf pool7 10 #[.nestMembers #[1103]] #[{ accessFlags := 1, nameIndex := 5, descriptorIndex := 6, attributes := #[] }, { accessFlags := 1, nameIndex := 5, descriptorIndex := 1010, attributes := #[] }, { accessFlags := 1, nameIndex := 5, descriptorIndex := 1233, attributes := #[] }, { accessFlags := 1, nameIndex := 507, descriptorIndex := 334, attributes := #[] }, { accessFlags := 1, nameIndex := 497, descriptorIndex := 427, attributes := #[] }, { accessFlags := 0, nameIndex := 532, descriptorIndex := 821, attributes := #[] }, { accessFlags := 2, nameIndex := 5, descriptorIndex := 29, attributes := #[] }, { accessFlags := 0, nameIndex := 5, descriptorIndex := 491, attributes := #[] }, { accessFlags := 0, nameIndex := 17, descriptorIndex := 337, attributes := #[] }, { accessFlags := 0, nameIndex := 494, descriptorIndex := 142, attributes := #[] }, { accessFlags := 8, nameIndex := 501, descriptorIndex := 391, attributes := #[] }] 49 2 #[1106, 1108, 575, 1110, 1112] #[{ accessFlags := 18, nameIndex := 13, descriptorIndex := 14, attributes := #[] }, { accessFlags := 18, nameIndex := 17, descriptorIndex := 18, attributes := #[] }, { accessFlags := 2, nameIndex := 21, descriptorIndex := 22, attributes := #[] }, { accessFlags := 2, nameIndex := 25, descriptorIndex := 26, attributes := #[] }, { accessFlags := 26, nameIndex := 1116, descriptorIndex := 1117, attributes := #[] }, { accessFlags := 24, nameIndex := 40, descriptorIndex := 26, attributes := #[] }, { accessFlags := 26, nameIndex := 1101, descriptorIndex := 1102, attributes := #[] }, { accessFlags := 26, nameIndex := 1121, descriptorIndex := 1122, attributes := #[] }, { accessFlags := 25, nameIndex := 599, descriptorIndex := 600, attributes := #[] }, { accessFlags := 24, nameIndex := 1125, descriptorIndex := 18, attributes := #[] }, { accessFlags := 24, nameIndex := 1127, descriptorIndex := 18, attributes := #[] }])
  fields := #[{ name := "value", type := (.array .byte), accessFlags := 18, slot := 0, constantValue := 0 }, { name := "coder", type := .byte, accessFlags := 18, slot := 1, constantValue := 0 }, { name := "hash", type := .int, accessFlags := 2, slot := 2, constantValue := 0 }, { name := "hashIsZero", type := .boolean, accessFlags := 2, slot := 3, constantValue := 0 }, { name := "serialVersionUID", type := .long, accessFlags := 26, slot := 0, constantValue := 0 }, { name := "COMPACT_STRINGS", type := .boolean, accessFlags := 24, slot := 1, constantValue := 0 }, { name := "serialPersistentFields", type := (.array (.object "java/io/ObjectStreamField")), accessFlags := 26, slot := 2, constantValue := 0 }, { name := "REPL", type := .char, accessFlags := 26, slot := 3, constantValue := 0 }, { name := "CASE_INSENSITIVE_ORDER", type := (.object "java/util/Comparator"), accessFlags := 25, slot := 4, constantValue := 0 }, { name := "LATIN1", type := .byte, accessFlags := 24, slot := 5, constantValue := 0 }, { name := "UTF16", type := .byte, accessFlags := 24, slot := 6, constantValue := 0 }]
  methods := #[k7m0, k7m1, k7m2, k7m3, k7m4, k7m5, k7m6, k7m7, k7m8, k7m9, k7m10]
  instanceTypes := #[(.array .byte), .byte, .int, .boolean]
  staticTypes := #[.long, .boolean, (.array (.object "java/io/ObjectStreamField")), .char, (.object "java/util/Comparator"), .byte, .byte]
  resolved := Array.replicate 1451 none
  statics := some 0 }

def pool8 : Array CpInfo := pool [(6, .class_ 8), (1, u "java/lang/Object"), (0, u "<init>"), (0, u "()V"), (1, .class_ 14), (1, u "java/lang/StringUTF16"), (31, u "$assertionsDisabled"), (0, u "Z"), (13, u "HI_BYTE_SHIFT"), (0, u "I"), (2, u "LO_BYTE_SHIFT"), (49, .methodref 12 116), (0, .nameAndType 117 118), (0, u "compress"), (0, u "([CI[BII)I"), (3, u "([CII)[B"), (138, u "coderFromArrayLen"), (0, u "([BI)B"), (106, .class_ 371), (1, u "java/lang/StringUTF16$LinesSpliterator"), (58, u "MAX_LENGTH"), (196, .class_ 628), (0, u "java/lang/StringUTF16$CodePointsSpliterator"), (0, .class_ 630), (0, u "java/lang/StringUTF16$CharsSpliterator")] 4

def k8m0 : Method := { name := "<init>", desc := "()V", sig := { parameters := [], returnType := none }, accessFlags := 0, code := none }
def k8c1 : Code := { maxStack := 2, maxLocals := 2, code := jdk_52_method_15_code, exceptionTable := #[], attributes := #[] }
def k8m1 : Method := { name := "coderFromArrayLen", desc := "([BI)B", sig := { parameters := [(.array .byte), .int], returnType := some .byte }, accessFlags := 8, code := some k8c1 }
def k8c2 : Code := { maxStack := 5, maxLocals := 6, code := jdk_52_method_16_code, exceptionTable := #[], attributes := #[] }
def k8m2 : Method := { name := "compress", desc := "([CII)[B", sig := { parameters := [(.array .char), .int, .int], returnType := some (.array .byte) }, accessFlags := 9, code := some k8c2 }
def k8c3 : Code := { maxStack := 3, maxLocals := 7, code := jdk_52_method_21_code, exceptionTable := #[], attributes := #[] }
def k8m3 : Method := { name := "compress", desc := "([CI[BII)I", sig := { parameters := [(.array .char), .int, (.array .byte), .int, .int], returnType := some .int }, accessFlags := 9, code := some k8c3 }
/-- java/lang/StringUTF16 -/
def k8 : Class := { plain "java/lang/StringUTF16" (some 0) with
  accessFlags := 48
  interfaces := #[]
  cf := some (fileOf pool8 12 #[.nestMembers #[627, 629, 369]] #[{ accessFlags := 0, nameIndex := 9, descriptorIndex := 10, attributes := #[] }, { accessFlags := 8, nameIndex := 261, descriptorIndex := 262, attributes := #[] }, { accessFlags := 9, nameIndex := 117, descriptorIndex := 122, attributes := #[] }, { accessFlags := 9, nameIndex := 117, descriptorIndex := 118, attributes := #[] }] 48 6 #[] #[{ accessFlags := 26, nameIndex := 61, descriptorIndex := 62, attributes := #[] }, { accessFlags := 26, nameIndex := 65, descriptorIndex := 62, attributes := #[] }, { accessFlags := 24, nameIndex := 430, descriptorIndex := 62, attributes := #[] }, { accessFlags := 4120, nameIndex := 46, descriptorIndex := 47, attributes := #[] }])
  fields := #[{ name := "HI_BYTE_SHIFT", type := .int, accessFlags := 26, slot := 0, constantValue := 0 }, { name := "LO_BYTE_SHIFT", type := .int, accessFlags := 26, slot := 1, constantValue := 0 }, { name := "MAX_LENGTH", type := .int, accessFlags := 24, slot := 2, constantValue := 0 }, { name := "$assertionsDisabled", type := .boolean, accessFlags := 4120, slot := 3, constantValue := 0 }]
  methods := #[k8m0, k8m1, k8m2, k8m3]
  instanceTypes := #[]
  staticTypes := #[.int, .int, .int, .boolean]
  resolved := Array.replicate 635 none
  statics := none }

def pool9 : Array CpInfo := pool [(1, .methodref 2 3), (0, .class_ 4), (0, .nameAndType 5 6), (0, u "java/lang/Object"), (0, u "<init>"), (0, u "()V"), (0, .fieldref 8 9), (0, .class_ 10), (0, .nameAndType 11 12), (0, u "com/example/onceward/onceward/HostPort"), (0, u "host"), (0, u "Ljava/lang/String;"), (0, .fieldref 8 14), (0, .nameAndType 15 16), (0, u "port"), (0, u "I"), (12, .class_ 30), (0, u "java/lang/StringBuilder"), (0, .methodref 29 3), (0, .methodref 29 33), (0, .nameAndType 34 35), (0, u "append"), (0, u "(Ljava/lang/String;)Ljava/lang/StringBuilder;"), (4, .methodref 29 41), (0, .nameAndType 42 43), (0, u "toString"), (0, u "()Ljava/lang/String;"), (35, u "(Ljava/lang/String;I)V"), (7, .string 88), (0, u ":"), (0, .methodref 29 90), (0, .nameAndType 34 91), (0, u "(I)Ljava/lang/StringBuilder;")] 28

def k9c0 : Code := { maxStack := 2, maxLocals := 3, code := prog_9_method_1_code, exceptionTable := #[], attributes := #[] }
def k9m0 : Method := { name := "<init>", desc := "(Ljava/lang/String;I)V", sig := { parameters := [(.object "java/lang/String"), .int], returnType := none }, accessFlags := 0, code := some k9c0 }
def k9c1 : Code := { maxStack := 2, maxLocals := 1, code := prog_9_method_7_code, exceptionTable := #[], attributes := #[] }
def k9m1 : Method := { name := "toString", desc := "()Ljava/lang/String;", sig := { parameters := [], returnType := some (.object "java/lang/String") }, accessFlags := 1, code := some k9c1 }
/-- com/example/onceward/onceward/HostPort -/
def k9 : Class := { plain "com/example/onceward/onceward/HostPort" (some 0) with
  accessFlags := 48
  interfaces := #[]
  cf := some (fileOf pool9 8 #[] #[{ accessFlags := 0, nameIndex := 5, descriptorIndex := 79, attributes := #[] }, { accessFlags := 1, nameIndex := 42, descriptorIndex := 43, attributes := #[] }] 48 2 #[] #[{ accessFlags := 18, nameIndex := 11, descriptorIndex := 12, attributes := #[] }, { accessFlags := 18, nameIndex := 15, descriptorIndex := 16, attributes := #[] }])
  fields := #[{ name := "host", type := (.object "java/lang/String"), accessFlags := 18, slot := 0, constantValue := 0 }, { name := "port", type := .int, accessFlags := 18, slot := 1, constantValue := 0 }]
  methods := #[k9m0, k9m1]
  instanceTypes := #[(.object "java/lang/String"), .int]
  staticTypes := #[]
  resolved := Array.replicate 120 none
  statics := none }

def pool10 : Array CpInfo := pool [(1, .class_ 2), (0, u "java/lang/Appendable"), (0, .class_ 4), (0, u "java/lang/Object")] 9

/-- java/lang/Appendable -/
def k10 : Class := { plain "java/lang/Appendable" (some 0) with
  accessFlags := 1537
  interfaces := #[]
  cf := some (fileOf pool10 1 #[] #[] 1537 3 #[] #[])
  fields := #[]
  methods := #[]
  instanceTypes := #[]
  staticTypes := #[]
  resolved := Array.replicate 14 none
  statics := none }

def pool11 : Array CpInfo := pool [(1, .class_ 2), (0, u "java/lang/String"), (0, .methodref 4 5), (0, .class_ 6), (0, .nameAndType 7 8), (0, u "java/lang/Object"), (0, u "<init>"), (0, u "()V"), (1, .class_ 12), (1, u "java/lang/AbstractStringBuilder"), (0, u "EMPTYVALUE"), (0, u "[B"), (0, .fieldref 10 16), (0, .nameAndType 17 14), (0, u "value"), (0, .fieldref 1 19), (0, .nameAndType 20 21), (0, u "COMPACT_STRINGS"), (0, u "Z"), (0, .fieldref 10 23), (0, .nameAndType 24 25), (0, u "coder"), (0, u "B"), (6, .methodref 1 33), (0, .nameAndType 34 35), (0, u "length"), (0, u "()I"), (0, .class_ 37), (0, u "java/lang/Integer"), (2, .methodref 1 41), (0, .nameAndType 24 42), (0, u "()B"), (2, u "append"), (0, u "(Ljava/lang/String;)Ljava/lang/AbstractStringBuilder;"), (1, .class_ 49), (0, u "java/lang/CharSequence"), (19, u "(Ljava/lang/String;)V"), (5, u "maybeLatin1"), (3, .fieldref 10 80), (0, .nameAndType 81 82), (0, u "count"), (0, u "I"), (0, .methodref 10 84), (0, .nameAndType 85 86), (0, u "isLatin1"), (0, u "()Z"), (13, .methodref 10 101), (0, .nameAndType 102 103), (0, u "ensureCapacityInternal"), (0, u "(I)V"), (3, u "(I)I"), (80, u "getChars"), (19, .methodref 10 209), (0, .nameAndType 210 211), (0, u "putStringAt"), (0, u "(ILjava/lang/String;)V"), (5, u "inflateIfNeededFor"), (2, .nameAndType 221 222), (0, u "getBytes"), (0, u "([BIB)V"), (22, .methodref 36 246), (0, .nameAndType 247 107), (0, u "stringSize"), (0, .methodref 36 249), (0, .nameAndType 188 250), (0, u "(II[B)I"), (146, .methodref 10 398), (0, .nameAndType 217 69), (0, .methodref 1 220), (3, u "()[B"), (40, .class_ 445), (0, u "java/lang/Appendable"), (65, u "(I)Ljava/lang/AbstractStringBuilder;"), (40, u "getValue")] 56

def k11m0 : Method := { name := "<init>", desc := "()V", sig := { parameters := [], returnType := none }, accessFlags := 0, code := none }
def k11c1 : Code := { maxStack := 2, maxLocals := 2, code := jdk_68_method_2_code, exceptionTable := #[], attributes := #[] }
def k11m1 : Method := { name := "<init>", desc := "(I)V", sig := { parameters := [.int], returnType := none }, accessFlags := 0, code := some k11c1 }
def k11c2 : Code := { maxStack := 1, maxLocals := 1, code := jdk_68_method_6_code, exceptionTable := #[], attributes := #[] }
def k11m2 : Method := { name := "length", desc := "()I", sig := { parameters := [], returnType := some .int }, accessFlags := 1, code := some k11c2 }
def k11c3 : Code := { maxStack := 4, maxLocals := 3, code := jdk_68_method_9_code, exceptionTable := #[], attributes := #[] }
def k11m3 : Method := { name := "ensureCapacityInternal", desc := "(I)V", sig := { parameters := [.int], returnType := none }, accessFlags := 2, code := some k11c3 }
def k11c4 : Code := { maxStack := 3, maxLocals := 3, code := jdk_68_method_22_code, exceptionTable := #[], attributes := #[] }
def k11m4 : Method := { name := "append", desc := "(Ljava/lang/String;)Ljava/lang/AbstractStringBuilder;", sig := { parameters := [(.object "java/lang/String")], returnType := some (.object "java/lang/AbstractStringBuilder") }, accessFlags := 1, code := some k11c4 }
def k11c5 : Code := { maxStack := 4, maxLocals := 4, code := jdk_68_method_32_code, exceptionTable := #[], attributes := #[] }
def k11m5 : Method := { name := "append", desc := "(I)Ljava/lang/AbstractStringBuilder;", sig := { parameters := [.int], returnType := some (.object "java/lang/AbstractStringBuilder") }, accessFlags := 1, code := some k11c5 }
def k11c6 : Code := { maxStack := 1, maxLocals := 1, code := jdk_68_method_64_code, exceptionTable := #[], attributes := #[] }
def k11m6 : Method := { name := "getValue", desc := "()[B", sig := { parameters := [], returnType := some (.array .byte) }, accessFlags := 16, code := some k11c6 }
def k11c7 : Code := { maxStack := 1, maxLocals := 1, code := jdk_68_method_68_code, exceptionTable := #[], attributes := #[] }
def k11m7 : Method := { name := "isLatin1", desc := "()Z", sig := { parameters := [], returnType := some .boolean }, accessFlags := 16, code := some k11c7 }
def k11c8 : Code := { maxStack := 2, maxLocals := 2, code := jdk_68_method_71_code, exceptionTable := #[], attributes := #[] }
def k11m8 : Method := { name := "inflateIfNeededFor", desc := "(Ljava/lang/String;)V", sig := { parameters := [(.object "java/lang/String")], returnType := none }, accessFlags := 2, code := some k11c8 }
def k11c9 : Code := { maxStack := 4, maxLocals := 3, code := jdk_68_method_73_code, exceptionTable := #[], attributes := #[] }
def k11m9 : Method := { name := "putStringAt", desc := "(ILjava/lang/String;)V", sig := { parameters := [.int, (.object "java/lang/String")], returnType := none }, accessFlags := 2, code := some k11c9 }
/-- java/lang/AbstractStringBuilder -/
def k11 : Class := { plain "java/lang/AbstractStringBuilder" (some 0) with
  accessFlags := 1056
  interfaces := #[10, 4]
  cf := some (fileOf pool11 10 #[] #[{ accessFlags := 0, nameIndex := 7, descriptorIndex := 8, attributes := #[] }, { accessFlags := 0, nameIndex := 7, descriptorIndex := 103, attributes := #[] }, { accessFlags := 1, nameIndex := 34, descriptorIndex := 35, attributes := #[] }, { accessFlags := 2, nameIndex := 102, descriptorIndex := 103, attributes := #[] }, { accessFlags := 1, nameIndex := 45, descriptorIndex := 46, attributes := #[] }, { accessFlags := 1, nameIndex := 45, descriptorIndex := 511, attributes := #[] }, { accessFlags := 16, nameIndex := 552, descriptorIndex := 403, attributes := #[] }, { accessFlags := 16, nameIndex := 85, descriptorIndex := 86, attributes := #[] }, { accessFlags := 2, nameIndex := 217, descriptorIndex := 69, attributes := #[] }, { accessFlags := 2, nameIndex := 210, descriptorIndex := 211, attributes := #[] }] 1056 4 #[444, 48] #[{ accessFlags := 0, nameIndex := 17, descriptorIndex := 14, attributes := #[] }, { accessFlags := 0, nameIndex := 24, descriptorIndex := 25, attributes := #[] }, { accessFlags := 0, nameIndex := 75, descriptorIndex := 21, attributes := #[] }, { accessFlags := 0, nameIndex := 81, descriptorIndex := 82, attributes := #[] }, { accessFlags := 26, nameIndex := 13, descriptorIndex := 14, attributes := #[] }])
  fields := #[{ name := "value", type := (.array .byte), accessFlags := 0, slot := 0, constantValue := 0 }, { name := "coder", type := .byte, accessFlags := 0, slot := 1, constantValue := 0 }, { name := "maybeLatin1", type := .boolean, accessFlags := 0, slot := 2, constantValue := 0 }, { name := "count", type := .int, accessFlags := 0, slot := 3, constantValue := 0 }, { name := "EMPTYVALUE", type := (.array .byte), accessFlags := 26, slot := 0, constantValue := 0 }]
  methods := #[k11m0, k11m1, k11m2, k11m3, k11m4, k11m5, k11m6, k11m7, k11m8, k11m9]
  instanceTypes := #[(.array .byte), .byte, .boolean, .int]
  staticTypes := #[(.array .byte)]
  resolved := Array.replicate 609 none
  statics := none }

def pool12 : Array CpInfo := pool [(1, .methodref 2 3), (0, .class_ 4), (0, .nameAndType 5 6), (0, u "java/lang/AbstractStringBuilder"), (0, u "<init>"), (0, u "(I)V"), (11, .class_ 20), (1, u "java/lang/String"), (3, .class_ 26), (1, u "java/lang/StringBuilder"), (0, u "append"), (0, u "(Ljava/lang/String;)Ljava/lang/StringBuilder;"), (0, .methodref 2 30), (0, .nameAndType 27 31), (0, u "(Ljava/lang/String;)Ljava/lang/AbstractStringBuilder;"), (21, .methodref 2 54), (0, .nameAndType 27 55), (0, u "(I)Ljava/lang/AbstractStringBuilder;"), (81, .methodref 18 138), (0, .nameAndType 5 139), (0, u "(Ljava/lang/StringBuilder;)V"), (5, u "()V"), (10, u "()I"), (111, u "(I)Ljava/lang/StringBuilder;"), (74, .methodref 2 344), (0, .nameAndType 345 156), (0, u "length"), (3, .class_ 350), (0, u "java/lang/Appendable"), (0, .class_ 352), (0, u "java/io/Serializable"), (0, .class_ 354), (0, u "java/lang/Comparable"), (0, .class_ 356), (0, u "java/lang/CharSequence"), (0, u "serialVersionUID"), (0, u "J"), (40, u "toString"), (0, u "()Ljava/lang/String;")] 21

def k12c0 : Code := { maxStack := 2, maxLocals := 1, code := jdk_67_method_1_code, exceptionTable := #[], attributes := #[] }
def k12m0 : Method := { name := "<init>", desc := "()V", sig := { parameters := [], returnType := none }, accessFlags := 1, code := some k12c0 }
def k12c1 : Code := { maxStack := 2, maxLocals := 2, code := jdk_67_method_7_code, exceptionTable := #[], attributes := #[] }
def k12m1 : Method := { name := "append", desc := "(Ljava/lang/String;)Ljava/lang/StringBuilder;", sig := { parameters := [(.object "java/lang/String")], returnType := some (.object "java/lang/StringBuilder") }, accessFlags := 1, code := some k12c1 }
def k12c2 : Code := { maxStack := 2, maxLocals := 2, code := jdk_67_method_15_code, exceptionTable := #[], attributes := #[] }
def k12m2 : Method := { name := "append", desc := "(I)Ljava/lang/StringBuilder;", sig := { parameters := [.int], returnType := some (.object "java/lang/StringBuilder") }, accessFlags := 1, code := some k12c2 }
def k12c3 : Code := { maxStack := 3, maxLocals := 1, code := jdk_67_method_42_code, exceptionTable := #[], attributes := #[] }
def k12m3 : Method := { name := "toString", desc := "()Ljava/lang/String;", sig := { parameters := [], returnType := some (.object "java/lang/String") }, accessFlags := 1, code := some k12c3 }
def k12c4 : Code := { maxStack := 1, maxLocals := 1, code := jdk_67_method_93_code, exceptionTable := #[], attributes := #[] }
def k12m4 : Method := { name := "length", desc := "()I", sig := { parameters := [], returnType := some .int }, accessFlags := 4161, code := some k12c4 }
/-- java/lang/StringBuilder -/
def k12 : Class := { plain "java/lang/StringBuilder" (some 11) with
  accessFlags := 49
  interfaces := #[10, 2, 3, 4]
  cf := some (fileOf pool12 24 #[] #[{ accessFlags := 1, nameIndex := 5, descriptorIndex := 145, attributes := #[] }, { accessFlags := 1, nameIndex := 27, descriptorIndex := 28, attributes := #[] }, { accessFlags := 1, nameIndex := 27, descriptorIndex := 268, attributes := #[] }, { accessFlags := 1, nameIndex := 399, descriptorIndex := 400, attributes := #[] }, { accessFlags := 4161, nameIndex := 345, descriptorIndex := 156, attributes := #[] }] 49 2 #[349, 351, 353, 355] #[{ accessFlags := 24, nameIndex := 357, descriptorIndex := 358, attributes := #[] }])
  fields := #[{ name := "serialVersionUID", type := .long, accessFlags := 24, slot := 0, constantValue := 0 }]
  methods := #[k12m0, k12m1, k12m2, k12m3, k12m4]
  instanceTypes := #[(.array .byte), .byte, .boolean, .int]
  staticTypes := #[.long]
  resolved := Array.replicate 422 none
  statics := none }

def pool13 : Array CpInfo := pool [(2, .class_ 4), (1, u "java/lang/Object"), (0, u "<init>"), (0, u "()V"), (1, .class_ 10), (1, u "java/lang/System"), (0, u "allowSecurityManager"), (0, u "I"), (16, u "cons"), (0, u "Ljava/io/Console;"), (77, .class_ 110), (1, u "java/lang/System$CallersHolder"), (43, u "initialErrStream"), (0, u "Ljava/io/PrintStream;"), (19, u "security"), (0, u "Ljava/lang/SecurityManager;"), (31, .class_ 209), (0, u "java/lang/System$1"), (7, u "props"), (0, u "Ljava/util/Properties;"), (2, u "lineSeparator"), (0, u "Ljava/lang/String;"), (96, .class_ 321), (1, u "java/lang/System$LoggerFinder"), (5, .class_ 328), (0, u "java/lang/System$Logger"), (67, u "err"), (2, u "out"), (91, u "notSupportedJnuEncoding"), (15, u "in"), (17, u "initialIn"), (0, u "Ljava/io/InputStream;"), (35, u "bootLayer"), (0, u "Ljava/lang/ModuleLayer;"), (99, .class_ 664), (0, u "java/lang/System$2"), (9, u "NEVER"), (2, u "MAYBE"), (49, u "arraycopy"), (0, u "(Ljava/lang/Object;ILjava/lang/Object;II)V"), (72, .class_ 802), (0, u "java/lang/System$Logger$Level")] 31

def k13m0 : Method := { name := "<init>", desc := "()V", sig := { parameters := [], returnType := none }, accessFlags := 2, code := none }
def k13m1 : Method := { name := "arraycopy", desc := "(Ljava/lang/Object;ILjava/lang/Object;II)V", sig := { parameters := [(.object "java/lang/Object"), .int, (.object "java/lang/Object"), .int, .int], returnType := none }, accessFlags := 265, code := none }
/-- java/lang/System -/
def k13 : Class := { plain "java/lang/System" (some 0) with
  accessFlags := 49
  interfaces := #[]
  cf := some (fileOf pool13 8 #[.nestMembers #[319, 327, 801, 108, 663, 208]] #[{ accessFlags := 2, nameIndex := 5, descriptorIndex := 6, attributes := #[] }, { accessFlags := 265, nameIndex := 727, descriptorIndex := 728, attributes := #[] }] 49 2 #[] #[{ accessFlags := 25, nameIndex := 507, descriptorIndex := 526, attributes := #[] }, { accessFlags := 25, nameIndex := 399, descriptorIndex := 155, attributes := #[] }, { accessFlags := 25, nameIndex := 396, descriptorIndex := 155, attributes := #[] }, { accessFlags := 10, nameIndex := 525, descriptorIndex := 526, attributes := #[] }, { accessFlags := 26, nameIndex := 674, descriptorIndex := 12, attributes := #[] }, { accessFlags := 26, nameIndex := 677, descriptorIndex := 12, attributes := #[] }, { accessFlags := 10, nameIndex := 11, descriptorIndex := 12, attributes := #[] }, { accessFlags := 74, nameIndex := 175, descriptorIndex := 176, attributes := #[] }, { accessFlags := 10, nameIndex := 491, descriptorIndex := 222, attributes := #[] }, { accessFlags := 74, nameIndex := 29, descriptorIndex := 30, attributes := #[] }, { accessFlags := 74, nameIndex := 154, descriptorIndex := 155, attributes := #[] }, { accessFlags := 10, nameIndex := 217, descriptorIndex := 218, attributes := #[] }, { accessFlags := 10, nameIndex := 221, descriptorIndex := 222, attributes := #[] }, { accessFlags := 8, nameIndex := 562, descriptorIndex := 563, attributes := #[] }])
  fields := #[{ name := "in", type := (.object "java/io/InputStream"), accessFlags := 25, slot := 0, constantValue := 0 }, { name := "out", type := (.object "java/io/PrintStream"), accessFlags := 25, slot := 1, constantValue := 0 }, { name := "err", type := (.object "java/io/PrintStream"), accessFlags := 25, slot := 2, constantValue := 0 }, { name := "initialIn", type := (.object "java/io/InputStream"), accessFlags := 10, slot := 3, constantValue := 0 }, { name := "NEVER", type := .int, accessFlags := 26, slot := 4, constantValue := 0 }, { name := "MAYBE", type := .int, accessFlags := 26, slot := 5, constantValue := 0 }, { name := "allowSecurityManager", type := .int, accessFlags := 10, slot := 6, constantValue := 0 }, { name := "security", type := (.object "java/lang/SecurityManager"), accessFlags := 74, slot := 7, constantValue := 0 }, { name := "notSupportedJnuEncoding", type := (.object "java/lang/String"), accessFlags := 10, slot := 8, constantValue := 0 }, { name := "cons", type := (.object "java/io/Console"), accessFlags := 74, slot := 9, constantValue := 0 }, { name := "initialErrStream", type := (.object "java/io/PrintStream"), accessFlags := 74, slot := 10, constantValue := 0 }, { name := "props", type := (.object "java/util/Properties"), accessFlags := 10, slot := 11, constantValue := 0 }, { name := "lineSeparator", type := (.object "java/lang/String"), accessFlags := 10, slot := 12, constantValue := 0 }, { name := "bootLayer", type := (.object "java/lang/ModuleLayer"), accessFlags := 8, slot := 13, constantValue := 0 }]
  methods := #[k13m0, k13m1]
  instanceTypes := #[]
  staticTypes := #[(.object "java/io/InputStream"), (.object "java/io/PrintStream"), (.object "java/io/PrintStream"), (.object "java/io/InputStream"), .int, .int, .int, (.object "java/lang/SecurityManager"), (.object "java/lang/String"), (.object "java/io/Console"), (.object "java/io/PrintStream"), (.object "java/util/Properties"), (.object "java/lang/String"), (.object "java/lang/ModuleLayer")]
  resolved := Array.replicate 834 none
  statics := none }

def pool14 : Array CpInfo := pool [(2, .class_ 4), (1, u "java/lang/Object"), (0, u "<init>"), (0, u "()V"), (1, .class_ 10), (1, u "java/lang/Number"), (2, .class_ 14), (0, u "java/io/Serializable"), (0, u "serialVersionUID"), (0, u "J")] 20

def k14m0 : Method := { name := "<init>", desc := "()V", sig := { parameters := [], returnType := none }, accessFlags := 1, code := none }
/-- java/lang/Number -/
def k14 : Class := { plain "java/lang/Number" (some 0) with
  accessFlags := 1057
  interfaces := #[2]
  cf := some (fileOf pool14 8 #[] #[{ accessFlags := 1, nameIndex := 5, descriptorIndex := 6, attributes := #[] }] 1057 2 #[13] #[{ accessFlags := 26, nameIndex := 15, descriptorIndex := 16, attributes := #[] }])
  fields := #[{ name := "serialVersionUID", type := .long, accessFlags := 26, slot := 0, constantValue := 0 }]
  methods := #[k14m0]
  instanceTypes := #[]
  staticTypes := #[.long]
  resolved := Array.replicate 37 none
  statics := none }

def pool15 : Array CpInfo := pool [(1, .class_ 2), (0, u "java/lang/Integer"), (16, u "digits"), (0, u "[C"), (33, u "(I)I"), (19, u "stringSize"), (2, u "getChars"), (0, u "(II[B)I"), (4, .fieldref 1 84), (0, .nameAndType 85 86), (0, u "DigitOnes"), (0, u "[B"), (0, .fieldref 1 88), (0, .nameAndType 89 86), (0, u "DigitTens"), (99, .class_ 190), (0, u "java/lang/Integer$IntegerCache"), (3, u "I"), (8, .class_ 204), (0, u "java/lang/Number"), (2, u "value"), (94, u "TYPE"), (0, u "Ljava/lang/Class;"), (0, .class_ 305), (0, u "java/lang/Comparable"), (0, .class_ 307), (0, u "java/lang/constant/Constable"), (0, .class_ 309), (0, u "java/lang/constant/ConstantDesc"), (0, u "MIN_VALUE"), (1, u "MAX_VALUE"), (3, u "SIZE"), (1, u "BYTES"), (1, u "serialVersionUID"), (0, u "J")] 131

def k15c0 : Code := { maxStack := 4, maxLocals := 7, code := jdk_33_method_12_code, exceptionTable := #[], attributes := #[] }
def k15m0 : Method := { name := "getChars", desc := "(II[B)I", sig := { parameters := [.int, .int, (.array .byte)], returnType := some .int }, accessFlags := 8, code := some k15c0 }
def k15c1 : Code := { maxStack := 2, maxLocals := 4, code := jdk_33_method_13_code, exceptionTable := #[], attributes := #[] }
def k15m1 : Method := { name := "stringSize", desc := "(I)I", sig := { parameters := [.int], returnType := some .int }, accessFlags := 8, code := some k15c1 }
/-- java/lang/Integer -/
def k15 : Class := { plain "java/lang/Integer" (some 14) with
  accessFlags := 49
  interfaces := #[3, 5, 6]
  cf := some (fileOf pool15 1 #[.nestMembers #[189]] #[{ accessFlags := 8, nameIndex := 77, descriptorIndex := 78, attributes := #[] }, { accessFlags := 8, nameIndex := 74, descriptorIndex := 54, attributes := #[] }] 49 203 #[304, 306, 308] #[{ accessFlags := 25, nameIndex := 310, descriptorIndex := 194, attributes := #[] }, { accessFlags := 25, nameIndex := 312, descriptorIndex := 194, attributes := #[] }, { accessFlags := 25, nameIndex := 302, descriptorIndex := 303, attributes := #[] }, { accessFlags := 24, nameIndex := 19, descriptorIndex := 20, attributes := #[] }, { accessFlags := 24, nameIndex := 89, descriptorIndex := 86, attributes := #[] }, { accessFlags := 24, nameIndex := 85, descriptorIndex := 86, attributes := #[] }, { accessFlags := 18, nameIndex := 207, descriptorIndex := 194, attributes := #[] }, { accessFlags := 25, nameIndex := 316, descriptorIndex := 194, attributes := #[] }, { accessFlags := 25, nameIndex := 318, descriptorIndex := 194, attributes := #[] }, { accessFlags := 26, nameIndex := 320, descriptorIndex := 321, attributes := #[] }])
  fields := #[{ name := "MIN_VALUE", type := .int, accessFlags := 25, slot := 0, constantValue := 0 }, { name := "MAX_VALUE", type := .int, accessFlags := 25, slot := 1, constantValue := 0 }, { name := "TYPE", type := (.object "java/lang/Class"), accessFlags := 25, slot := 2, constantValue := 0 }, { name := "digits", type := (.array .char), accessFlags := 24, slot := 3, constantValue := 0 }, { name := "DigitTens", type := (.array .byte), accessFlags := 24, slot := 4, constantValue := 0 }, { name := "DigitOnes", type := (.array .byte), accessFlags := 24, slot := 5, constantValue := 0 }, { name := "value", type := .int, accessFlags := 18, slot := 0, constantValue := 0 }, { name := "SIZE", type := .int, accessFlags := 25, slot := 6, constantValue := 0 }, { name := "BYTES", type := .int, accessFlags := 25, slot := 7, constantValue := 0 }, { name := "serialVersionUID", type := .long, accessFlags := 26, slot := 8, constantValue := 0 }]
  methods := #[k15m0, k15m1]
  instanceTypes := #[.int]
  staticTypes := #[.int, .int, (.object "java/lang/Class"), (.array .char), (.array .byte), (.array .byte), .int, .int, .long]
  resolved := Array.replicate 453 none
  statics := some 1 }

def pool16 : Array CpInfo := pool [(2, .class_ 4), (1, u "java/lang/Object"), (0, u "<init>"), (0, u "()V"), (7, .class_ 16), (1, u "java/util/Arrays"), (57, .class_ 76), (1, u "java/util/Arrays$NaturalOrder"), (36, .class_ 115), (1, u "java/util/Arrays$LegacyMergeSort"), (1, u "Z"), (21, u "copyOfRange"), (10, .methodref 151 152), (0, .class_ 153), (0, .nameAndType 154 155), (0, u "java/lang/System"), (0, u "arraycopy"), (0, u "(Ljava/lang/Object;ILjava/lang/Object;II)V"), (148, .methodref 305 306), (0, .class_ 307), (0, .nameAndType 308 309), (0, u "java/lang/Math"), (0, u "min"), (0, u "(II)I"), (29, .methodref 14 340), (0, .nameAndType 341 342), (0, u "copyOfRangeByte"), (0, u "([BII)[B"), (0, .methodref 14 344), (0, .nameAndType 345 346), (0, u "checkLength"), (0, u "(II)V"), (28, .class_ 376), (0, u "java/util/Arrays$ArrayList"), (68, u "$assertionsDisabled"), (269, u "MIN_ARRAY_SORT_GRAN"), (0, u "I"), (2, u "INSERTIONSORT_THRESHOLD"), (255, .class_ 976), (0, u "java/util/Arrays$ArrayItr")] 52

def k16m0 : Method := { name := "<init>", desc := "()V", sig := { parameters := [], returnType := none }, accessFlags := 2, code := none }
def k16c1 : Code := { maxStack := 4, maxLocals := 2, code := jdk_65_method_131_code, exceptionTable := #[], attributes := #[] }
def k16m1 : Method := { name := "checkLength", desc := "(II)V", sig := { parameters := [.int, .int], returnType := none }, accessFlags := 10, code := some k16c1 }
def k16c2 : Code := { maxStack := 3, maxLocals := 3, code := jdk_65_method_132_code, exceptionTable := #[], attributes := #[] }
def k16m2 : Method := { name := "copyOfRange", desc := "([BII)[B", sig := { parameters := [(.array .byte), .int, .int], returnType := some (.array .byte) }, accessFlags := 9, code := some k16c2 }
def k16c3 : Code := { maxStack := 6, maxLocals := 5, code := jdk_65_method_133_code, exceptionTable := #[], attributes := #[] }
def k16m3 : Method := { name := "copyOfRangeByte", desc := "([BII)[B", sig := { parameters := [(.array .byte), .int, .int], returnType := some (.array .byte) }, accessFlags := 10, code := some k16c3 }
/-- java/util/Arrays -/
def k16 : Class := { plain "java/util/Arrays" (some 0) with
  accessFlags := 49
  interfaces := #[]
  cf := some (fileOf pool16 14 #[.nestMembers #[975, 375, 113, 74]] #[{ accessFlags := 2, nameIndex := 5, descriptorIndex := 6, attributes := #[] }, { accessFlags := 10, nameIndex := 345, descriptorIndex := 346, attributes := #[] }, { accessFlags := 9, nameIndex := 139, descriptorIndex := 342, attributes := #[] }, { accessFlags := 10, nameIndex := 341, descriptorIndex := 342, attributes := #[] }] 49 2 #[] #[{ accessFlags := 26, nameIndex := 715, descriptorIndex := 716, attributes := #[] }, { accessFlags := 26, nameIndex := 719, descriptorIndex := 716, attributes := #[] }, { accessFlags := 4120, nameIndex := 445, descriptorIndex := 117, attributes := #[] }])
  fields := #[{ name := "MIN_ARRAY_SORT_GRAN", type := .int, accessFlags := 26, slot := 0, constantValue := 0 }, { name := "INSERTIONSORT_THRESHOLD", type := .int, accessFlags := 26, slot := 1, constantValue := 0 }, { name := "$assertionsDisabled", type := .boolean, accessFlags := 4120, slot := 2, constantValue := 0 }]
  methods := #[k16m0, k16m1, k16m2, k16m3]
  instanceTypes := #[]
  staticTypes := #[.int, .int, .boolean]
  resolved := Array.replicate 1029 none
  statics := none }

def pool17 : Array CpInfo := pool [(1, .class_ 2), (0, u "java/lang/Math"), (1, .class_ 6), (1, u "java/lang/Object"), (0, u "<init>"), (0, u "()V"), (89, .class_ 100), (1, u "java/lang/Math$RandomNumberGeneratorHolder"), (71, u "negativeZeroFloatBits"), (0, u "J"), (2, u "negativeZeroDoubleBits"), (24, u "min"), (43, u "$assertionsDisabled"), (0, u "Z"), (88, u "(II)I"), (2, u "twoToTheDoubleScaleDown"), (0, u "D"), (4, u "twoToTheDoubleScaleUp"), (9, u "E"), (3, u "PI"), (2, u "TAU"), (2, u "DEGREES_TO_RADIANS"), (0, u "RADIANS_TO_DEGREES")] 94

def k17m0 : Method := { name := "<init>", desc := "()V", sig := { parameters := [], returnType := none }, accessFlags := 2, code := none }
def k17c1 : Code := { maxStack := 2, maxLocals := 2, code := jdk_29_method_69_code, exceptionTable := #[], attributes := #[] }
def k17m1 : Method := { name := "min", desc := "(II)I", sig := { parameters := [.int, .int], returnType := some .int }, accessFlags := 9, code := some k17c1 }
/-- java/lang/Math -/
def k17 : Class := { plain "java/lang/Math" (some 0) with
  accessFlags := 49
  interfaces := #[]
  cf := some (fileOf pool17 1 #[.nestMembers #[98]] #[{ accessFlags := 2, nameIndex := 7, descriptorIndex := 8, attributes := #[] }, { accessFlags := 9, nameIndex := 201, descriptorIndex := 335, attributes := #[] }] 49 4 #[] #[{ accessFlags := 25, nameIndex := 354, descriptorIndex := 339, attributes := #[] }, { accessFlags := 25, nameIndex := 358, descriptorIndex := 339, attributes := #[] }, { accessFlags := 25, nameIndex := 361, descriptorIndex := 339, attributes := #[] }, { accessFlags := 26, nameIndex := 364, descriptorIndex := 339, attributes := #[] }, { accessFlags := 26, nameIndex := 365, descriptorIndex := 339, attributes := #[] }, { accessFlags := 26, nameIndex := 172, descriptorIndex := 173, attributes := #[] }, { accessFlags := 26, nameIndex := 176, descriptorIndex := 173, attributes := #[] }, { accessFlags := 8, nameIndex := 344, descriptorIndex := 339, attributes := #[] }, { accessFlags := 8, nameIndex := 338, descriptorIndex := 339, attributes := #[] }, { accessFlags := 4120, nameIndex := 245, descriptorIndex := 246, attributes := #[] }])
  fields := #[{ name := "E", type := .double, accessFlags := 25, slot := 0, constantValue := 0 }, { name := "PI", type := .double, accessFlags := 25, slot := 1, constantValue := 0 }, { name := "TAU", type := .double, accessFlags := 25, slot := 2, constantValue := 0 }, { name := "DEGREES_TO_RADIANS", type := .double, accessFlags := 26, slot := 3, constantValue := 0 }, { name := "RADIANS_TO_DEGREES", type := .double, accessFlags := 26, slot := 4, constantValue := 0 }, { name := "negativeZeroFloatBits", type := .long, accessFlags := 26, slot := 5, constantValue := 0 }, { name := "negativeZeroDoubleBits", type := .long, accessFlags := 26, slot := 6, constantValue := 0 }, { name := "twoToTheDoubleScaleUp", type := .double, accessFlags := 8, slot := 7, constantValue := 0 }, { name := "twoToTheDoubleScaleDown", type := .double, accessFlags := 8, slot := 8, constantValue := 0 }, { name := "$assertionsDisabled", type := .boolean, accessFlags := 4120, slot := 9, constantValue := 0 }]
  methods := #[k17m0, k17m1]
  instanceTypes := #[]
  staticTypes := #[.double, .double, .double, .double, .double, .long, .long, .double, .double, .boolean]
  resolved := Array.replicate 460 none
  statics := none }

def pool18 : Array CpInfo := pool [(1, .class_ 2), (0, u "java/lang/String"), (1, .class_ 6), (1, u "java/lang/Object"), (0, u "<init>"), (0, u "()V"), (0, .methodref 1 10), (0, .nameAndType 11 12), (0, u "checkIndex"), (0, u "(II)V"), (1, .class_ 16), (1, u "java/lang/StringLatin1"), (36, u "([BI)C"), (67, u "$assertionsDisabled"), (0, u "Z"), (98, .class_ 223), (1, u "java/lang/StringLatin1$LinesSpliterator"), (28, u "charAt"), (137, .class_ 391), (0, u "java/lang/StringLatin1$CharsSpliterator")] 3

def k18m0 : Method := { name := "<init>", desc := "()V", sig := { parameters := [], returnType := none }, accessFlags := 0, code := none }
def k18c1 : Code := { maxStack := 2, maxLocals := 2, code := jdk_43_method_2_code, exceptionTable := #[], attributes := #[] }
def k18m1 : Method := { name := "charAt", desc := "([BI)C", sig := { parameters := [(.array .byte), .int], returnType := some .char }, accessFlags := 9, code := some k18c1 }
/-- java/lang/StringLatin1 -/
def k18 : Class := { plain "java/lang/StringLatin1" (some 0) with
  accessFlags := 48
  interfaces := #[]
  cf := some (fileOf pool18 14 #[.nestMembers #[390, 221]] #[{ accessFlags := 0, nameIndex := 7, descriptorIndex := 8, attributes := #[] }, { accessFlags := 9, nameIndex := 252, descriptorIndex := 53, attributes := #[] }] 48 4 #[] #[{ accessFlags := 4120, nameIndex := 121, descriptorIndex := 122, attributes := #[] }])
  fields := #[{ name := "$assertionsDisabled", type := .boolean, accessFlags := 4120, slot := 0, constantValue := 0 }]
  methods := #[k18m0, k18m1]
  instanceTypes := #[]
  staticTypes := #[.boolean]
  resolved := Array.replicate 395 none
  statics := none }

def pool19 : Array CpInfo := pool [(2, .class_ 4), (1, u "java/lang/Object"), (0, u "<init>"), (0, u "()V"), (17, .class_ 26), (1, u "jdk/internal/util/Preconditions"), (6, u "checkIndex"), (21, .class_ 56), (0, u "jdk/internal/util/Preconditions$4"), (57, .class_ 115), (0, u "jdk/internal/util/Preconditions$1"), (7, u "SIOOBE_FORMATTER"), (0, u "Ljava/util/function/BiFunction;"), (0, .class_ 126), (0, u "jdk/internal/util/Preconditions$2"), (3, u "AIOOBE_FORMATTER"), (0, .class_ 132), (0, u "jdk/internal/util/Preconditions$3"), (3, u "IOOBE_FORMATTER"), (41, u "(IILjava/util/function/BiFunction;)I")] 15

def k19m0 : Method := { name := "<init>", desc := "()V", sig := { parameters := [], returnType := none }, accessFlags := 1, code := none }
def k19c1 : Code := { maxStack := 3, maxLocals := 3, code := jdk_41_method_11_code, exceptionTable := #[], attributes := #[] }
def k19m1 : Method := { name := "checkIndex", desc := "(IILjava/util/function/BiFunction;)I", sig := { parameters := [.int, .int, (.object "java/util/function/BiFunction")], returnType := some .int }, accessFlags := 9, code := some k19c1 }
/-- jdk/internal/util/Preconditions -/
def k19 : Class := { plain "jdk/internal/util/Preconditions" (some 0) with
  accessFlags := 33
  interfaces := #[]
  cf := some (fileOf pool19 24 #[.nestMembers #[55, 131, 125, 114]] #[{ accessFlags := 1, nameIndex := 5, descriptorIndex := 6, attributes := #[] }, { accessFlags := 9, nameIndex := 33, descriptorIndex := 178, attributes := #[] }] 33 2 #[] #[{ accessFlags := 25, nameIndex := 123, descriptorIndex := 124, attributes := #[] }, { accessFlags := 25, nameIndex := 130, descriptorIndex := 124, attributes := #[] }, { accessFlags := 25, nameIndex := 136, descriptorIndex := 124, attributes := #[] }])
  fields := #[{ name := "SIOOBE_FORMATTER", type := (.object "java/util/function/BiFunction"), accessFlags := 25, slot := 0, constantValue := 0 }, { name := "AIOOBE_FORMATTER", type := (.object "java/util/function/BiFunction"), accessFlags := 25, slot := 1, constantValue := 0 }, { name := "IOOBE_FORMATTER", type := (.object "java/util/function/BiFunction"), accessFlags := 25, slot := 2, constantValue := 0 }]
  methods := #[k19m0, k19m1]
  instanceTypes := #[]
  staticTypes := #[(.object "java/util/function/BiFunction"), (.object "java/util/function/BiFunction"), (.object "java/util/function/BiFunction")]
  resolved := Array.replicate 194 none
  statics := some 2 }

def pool20 : Array CpInfo := pool [(9, u "<init>"), (6, .class_ 18), (1, u "java/lang/Object"), (0, u "()V"), (1, .class_ 23), (1, u "jdk/internal/util/ArraysSupport"), (0, u "LOG2_ARRAY_LONG_INDEX_SCALE"), (0, u "I"), (2, u "U"), (0, u "Ljdk/internal/misc/Unsafe;"), (8, u "BIG_ENDIAN"), (0, u "Z"), (8, u "LOG2_BYTE_BIT_SIZE"), (4, u "LOG2_ARRAY_INT_INDEX_SCALE"), (54, u "JLA"), (0, u "Ljdk/internal/access/JavaLangAccess;"), (11, u "LOG2_ARRAY_BOOLEAN_INDEX_SCALE"), (9, u "LOG2_ARRAY_BYTE_INDEX_SCALE"), (5, u "LOG2_ARRAY_CHAR_INDEX_SCALE"), (5, u "LOG2_ARRAY_SHORT_INDEX_SCALE"), (18, u "LOG2_ARRAY_FLOAT_INDEX_SCALE"), (24, u "LOG2_ARRAY_DOUBLE_INDEX_SCALE"), (89, u "T_BOOLEAN"), (2, u "T_CHAR"), (1, u "T_FLOAT"), (1, u "T_DOUBLE"), (1, u "T_BYTE"), (1, u "T_SHORT"), (1, u "T_INT"), (1, u "T_LONG"), (1, u "SOFT_MAX_ARRAY_LENGTH")] 83

def k20m0 : Method := { name := "<init>", desc := "()V", sig := { parameters := [], returnType := none }, accessFlags := 2, code := none }
/-- jdk/internal/util/ArraysSupport -/
def k20 : Class := { plain "jdk/internal/util/ArraysSupport" (some 0) with
  accessFlags := 33
  interfaces := #[]
  cf := some (fileOf pool20 21 #[] #[{ accessFlags := 2, nameIndex := 9, descriptorIndex := 19, attributes := #[] }] 33 16 #[] #[{ accessFlags := 24, nameIndex := 28, descriptorIndex := 29, attributes := #[] }, { accessFlags := 26, nameIndex := 38, descriptorIndex := 39, attributes := #[] }, { accessFlags := 25, nameIndex := 121, descriptorIndex := 25, attributes := #[] }, { accessFlags := 25, nameIndex := 131, descriptorIndex := 25, attributes := #[] }, { accessFlags := 25, nameIndex := 137, descriptorIndex := 25, attributes := #[] }, { accessFlags := 25, nameIndex := 143, descriptorIndex := 25, attributes := #[] }, { accessFlags := 25, nameIndex := 53, descriptorIndex := 25, attributes := #[] }, { accessFlags := 25, nameIndex := 24, descriptorIndex := 25, attributes := #[] }, { accessFlags := 25, nameIndex := 162, descriptorIndex := 25, attributes := #[] }, { accessFlags := 25, nameIndex := 187, descriptorIndex := 25, attributes := #[] }, { accessFlags := 26, nameIndex := 48, descriptorIndex := 25, attributes := #[] }, { accessFlags := 25, nameIndex := 277, descriptorIndex := 25, attributes := #[] }, { accessFlags := 25, nameIndex := 280, descriptorIndex := 25, attributes := #[] }, { accessFlags := 25, nameIndex := 282, descriptorIndex := 25, attributes := #[] }, { accessFlags := 25, nameIndex := 284, descriptorIndex := 25, attributes := #[] }, { accessFlags := 25, nameIndex := 286, descriptorIndex := 25, attributes := #[] }, { accessFlags := 25, nameIndex := 288, descriptorIndex := 25, attributes := #[] }, { accessFlags := 25, nameIndex := 290, descriptorIndex := 25, attributes := #[] }, { accessFlags := 25, nameIndex := 292, descriptorIndex := 25, attributes := #[] }, { accessFlags := 26, nameIndex := 108, descriptorIndex := 109, attributes := #[] }, { accessFlags := 25, nameIndex := 294, descriptorIndex := 25, attributes := #[] }])
  fields := #[{ name := "U", type := (.object "jdk/internal/misc/Unsafe"), accessFlags := 24, slot := 0, constantValue := 0 }, { name := "BIG_ENDIAN", type := .boolean, accessFlags := 26, slot := 1, constantValue := 0 }, { name := "LOG2_ARRAY_BOOLEAN_INDEX_SCALE", type := .int, accessFlags := 25, slot := 2, constantValue := 0 }, { name := "LOG2_ARRAY_BYTE_INDEX_SCALE", type := .int, accessFlags := 25, slot := 3, constantValue := 0 }, { name := "LOG2_ARRAY_CHAR_INDEX_SCALE", type := .int, accessFlags := 25, slot := 4, constantValue := 0 }, { name := "LOG2_ARRAY_SHORT_INDEX_SCALE", type := .int, accessFlags := 25, slot := 5, constantValue := 0 }, { name := "LOG2_ARRAY_INT_INDEX_SCALE", type := .int, accessFlags := 25, slot := 6, constantValue := 0 }, { name := "LOG2_ARRAY_LONG_INDEX_SCALE", type := .int, accessFlags := 25, slot := 7, constantValue := 0 }, { name := "LOG2_ARRAY_FLOAT_INDEX_SCALE", type := .int, accessFlags := 25, slot := 8, constantValue := 0 }, { name := "LOG2_ARRAY_DOUBLE_INDEX_SCALE", type := .int, accessFlags := 25, slot := 9, constantValue := 0 }, { name := "LOG2_BYTE_BIT_SIZE", type := .int, accessFlags := 26, slot := 10, constantValue := 0 }, { name := "T_BOOLEAN", type := .int, accessFlags := 25, slot := 11, constantValue := 0 }, { name := "T_CHAR", type := .int, accessFlags := 25, slot := 12, constantValue := 0 }, { name := "T_FLOAT", type := .int, accessFlags := 25, slot := 13, constantValue := 0 }, { name := "T_DOUBLE", type := .int, accessFlags := 25, slot := 14, constantValue := 0 }, { name := "T_BYTE", type := .int, accessFlags := 25, slot := 15, constantValue := 0 }, { name := "T_SHORT", type := .int, accessFlags := 25, slot := 16, constantValue := 0 }, { name := "T_INT", type := .int, accessFlags := 25, slot := 17, constantValue := 0 }, { name := "T_LONG", type := .int, accessFlags := 25, slot := 18, constantValue := 0 }, { name := "JLA", type := (.object "jdk/internal/access/JavaLangAccess"), accessFlags := 26, slot := 19, constantValue := 0 }, { name := "SOFT_MAX_ARRAY_LENGTH", type := .int, accessFlags := 25, slot := 20, constantValue := 0 }]
  methods := #[k20m0]
  instanceTypes := #[]
  staticTypes := #[(.object "jdk/internal/misc/Unsafe"), .boolean, .int, .int, .int, .int, .int, .int, .int, .int, .int, .int, .int, .int, .int, .int, .int, .int, .int, (.object "jdk/internal/access/JavaLangAccess"), .int]
  resolved := Array.replicate 378 none
  statics := none }

def pool21 : Array CpInfo := pool [(1, u "java/lang/Cloneable"), (0, .class_ 1), (0, u "java/lang/Object"), (0, .class_ 3)] 3

/-- java/lang/Cloneable -/
def k21 : Class := { plain "java/lang/Cloneable" (some 0) with
  accessFlags := 1537
  interfaces := #[]
  cf := some (fileOf pool21 2 #[] #[] 1537 4 #[] #[])
  fields := #[]
  methods := #[]
  instanceTypes := #[]
  staticTypes := #[]
  resolved := Array.replicate 8 none
  statics := none }

/-- the primitive byte -/
def k22 : Class := { plain "byte" none with kind := .primitive 'B', accessFlags := 0x411 }
/-- [B -/
def k23 : Class := { plain "[B" (some 0) with kind := .array 22 .byte, interfaces := #[21, 2], accessFlags := 1041 }

/-- the primitive char -/
def k24 : Class := { plain "char" none with kind := .primitive 'C', accessFlags := 0x411 }
/-- [C -/
def k25 : Class := { plain "[C" (some 0) with kind := .array 24 .char, interfaces := #[21, 2], accessFlags := 1041 }

/-- the primitive int -/
def k26 : Class := { plain "int" none with kind := .primitive 'I', accessFlags := 0x411 }
/-- [I -/
def k27 : Class := { plain "[I" (some 0) with kind := .array 26 .int, interfaces := #[21, 2], accessFlags := 1041 }

/-- the primitive long -/
def k28 : Class := { plain "long" none with kind := .primitive 'J', accessFlags := 0x411 }
/-- [J -/
def k29 : Class := { plain "[J" (some 0) with kind := .array 28 .long, interfaces := #[21, 2], accessFlags := 1041 }

def heap : Heap := #[{ cls := 7, slots := #[.long 0, .int 1, .null, .int 0, .null, .int 0, .int 0], vm := .statics 7 },
  { cls := 15, slots := #[.int 0, .int 0, .null, .null, .ref 4, .ref 3, .int 0, .int 0, .long 0], vm := .statics 15 },
  { cls := 19, slots := #[.null, .null, .null], vm := .statics 19 },
  { cls := 23, slots := #[.int 48, .int 49, .int 50, .int 51, .int 52, .int 53, .int 54, .int 55, .int 56, .int 57, .int 48, .int 49, .int 50, .int 51, .int 52, .int 53, .int 54, .int 55, .int 56, .int 57, .int 48, .int 49, .int 50, .int 51, .int 52, .int 53, .int 54, .int 55, .int 56, .int 57, .int 48, .int 49, .int 50, .int 51, .int 52, .int 53, .int 54, .int 55, .int 56, .int 57, .int 48, .int 49, .int 50, .int 51, .int 52, .int 53, .int 54, .int 55, .int 56, .int 57, .int 48, .int 49, .int 50, .int 51, .int 52, .int 53, .int 54, .int 55, .int 56, .int 57, .int 48, .int 49, .int 50, .int 51, .int 52, .int 53, .int 54, .int 55, .int 56, .int 57, .int 48, .int 49, .int 50, .int 51, .int 52, .int 53, .int 54, .int 55, .int 56, .int 57, .int 48, .int 49, .int 50, .int 51, .int 52, .int 53, .int 54, .int 55, .int 56, .int 57, .int 48, .int 49, .int 50, .int 51, .int 52, .int 53, .int 54, .int 55, .int 56, .int 57], vm := .none },
  { cls := 23, slots := #[.int 48, .int 48, .int 48, .int 48, .int 48, .int 48, .int 48, .int 48, .int 48, .int 48, .int 49, .int 49, .int 49, .int 49, .int 49, .int 49, .int 49, .int 49, .int 49, .int 49, .int 50, .int 50, .int 50, .int 50, .int 50, .int 50, .int 50, .int 50, .int 50, .int 50, .int 51, .int 51, .int 51, .int 51, .int 51, .int 51, .int 51, .int 51, .int 51, .int 51, .int 52, .int 52, .int 52, .int 52, .int 52, .int 52, .int 52, .int 52, .int 52, .int 52, .int 53, .int 53, .int 53, .int 53, .int 53, .int 53, .int 53, .int 53, .int 53, .int 53, .int 54, .int 54, .int 54, .int 54, .int 54, .int 54, .int 54, .int 54, .int 54, .int 54, .int 55, .int 55, .int 55, .int 55, .int 55, .int 55, .int 55, .int 55, .int 55, .int 55, .int 56, .int 56, .int 56, .int 56, .int 56, .int 56, .int 56, .int 56, .int 56, .int 56, .int 57, .int 57, .int 57, .int 57, .int 57, .int 57, .int 57, .int 57, .int 57, .int 57], vm := .none }]
def classes : Array Class := #[k0, k1, k2, k3, k4, k5, k6, k7, k8, k9, k10, k11, k12, k13, k14, k15, k16, k17, k18, k19, k20, k21, k22, k23, k24, k25, k26, k27, k28, k29]
def interned : List (Array UInt16 × Addr) := []
def slotsUsed : Nat := 219
def theMethod : MethodId := ⟨1, 1⟩
def args0 : Array Value := #[.int 0, .int 0, .int 0, .int 0]
def aboutOver (below : List Frame) : State where
  vm := { classes := classes, interned := interned.toArray }
  heap := heap
  slotsUsed := slotsUsed
  threads := #[{ frames := .invoking theMethod args0 :: below }]
def below0 : List Frame := [.native { method := ⟨0, 0⟩, args := #[] }]
def about1 : State := aboutOver below0
def p0 : Program := .bare "" "" ""
def e0 : Env := launch0.env 0 0 0
theorem w_frames : about1.frames = Frame.invoking theMethod args0 :: below0 := rfl
set_option maxRecDepth 65536 in
theorem w_args : argsFit about1.vm theMethod args0 = true := by decide +kernel
set_option maxRecDepth 65536 in
theorem w_heap : heapFits about1 = true := by decide +kernel
set_option maxRecDepth 65536 in
theorem w_runnable : about1.curStatus? = some .runnable := by decide +kernel
set_option maxRecDepth 65536 in
theorem w_alone : about1.alone = true := by decide +kernel
set_option maxRecDepth 65536 in
theorem w_named : about1.methodNamed? x = some theMethod := by decide +kernel
set_option maxRecDepth 65536 in
theorem w_hears : about1.hears theMethod below0 = true := by decide +kernel
set_option maxRecDepth 65536 in
theorem w_ripe : about1.ripe theMethod args0 below0 = true := by decide +kernel
theorem w_running : about1.status = .running := rfl
set_option maxRecDepth 65536 in
theorem w_room : about1.hasRoom e0.platform room_1 = true :=
  launch0.hasRoom_least _ room_1 (by decide +kernel) (by decide +kernel) (by decide +kernel) (by decide +kernel) (by decide +kernel) (by decide +kernel)
theorem allAtoms_all (ts : List Jvm.Cond) (a : Array Jvm.Value) (st : Jvm.State) : (allAtoms ts).before a st = ts.all (fun c => c.before a st) := by
  induction ts with
  | nil => rfl
  | cons c t ih =>
    show (Jvm.Cond.and c (allAtoms t)).before a st = _
    rw [Jvm.Cond.before_and, ih, List.all_cons]
def words1 : List Jvm.Cond := Jvm.Cond.code x code maxLocals ret :: tables_1
/-- a 'code' word, met by the world's own term for the bytes: nothing is compared byte by byte -/
theorem code_word {y : MethodName} {bytes : ByteArray} {mx : Nat} {rt : Option FieldType} {a : Array Value} {s : State} {m : MethodId} {meth : Method} {c : Code} (h1 : s.methodNamed? y = some m) (h2 : s.vm.method? m = some meth) (h3 : meth.code = some c) (h4 : c.code = bytes)
    (h5 : (c.maxLocals == mx && c.exceptionTable.isEmpty && decide (c.maxStack ≤ mostOperands) && decide (meth.sig.returnType = rt) && !meth.locks && decide (parseMethodDescriptor y.desc = some meth.sig)) = true) : (Jvm.Cond.code y bytes mx rt).before a s = true := by
  simp only [Bool.and_eq_true, beq_iff_eq, Bool.not_eq_true', decide_eq_true_eq] at h5
  obtain ⟨⟨⟨⟨⟨g1, g2⟩, g3⟩, g4⟩, g5⟩, g6⟩ := h5
  simp [Cond.before, Cond.holds, Cond.value, h1, h2, h3, h4, g1, g2, g3, g4, g5, g6]
def isCode : Jvm.Cond → Bool
  | .code _ _ _ _ => true
  | _ => false
theorem all_split {L : List Jvm.Cond} {P : Jvm.Cond → Bool} (h1 : L.all (fun c => isCode c || P c) = true) (h2 : ∀ c ∈ L.filter isCode, P c = true) : L.all P = true := by
  refine List.all_eq_true.mpr fun c hc => ?_
  have h := List.all_eq_true.mp h1 c hc
  rcases Bool.eq_false_or_eq_true (isCode c) with hi | hi
  · exact h2 c (List.mem_filter.mpr ⟨hc, hi⟩)
  · simpa [hi] using h
set_option maxRecDepth 65536 in
theorem w_c0 : (Jvm.Cond.code x code maxLocals ret).before args0 about1 = true := code_word (m := ⟨1, 1⟩) (meth := k1m1) (c := k1c1) (by decide +kernel) rfl rfl rfl (by decide +kernel)
set_option maxRecDepth 65536 in
theorem w_c1 : (Jvm.Cond.code ({ cls := "java/lang/String", name := "<init>", desc := "([C)V" } : Jvm.MethodName) jdk_42_method_3_code (2 : Nat) (Option.none : Option Jvm.ClassFile.FieldType)).before args0 about1 = true := code_word (m := ⟨7, 1⟩) (meth := k7m1) (c := k7c1) (by decide +kernel) rfl rfl rfl (by decide +kernel)
set_option maxRecDepth 65536 in
theorem w_c2 : (Jvm.Cond.code ({ cls := "java/lang/String", name := "<init>", desc := "([CIILjava/lang/Void;)V" } : Jvm.MethodName) jdk_42_method_149_code (6 : Nat) (Option.none : Option Jvm.ClassFile.FieldType)).before args0 about1 = true := code_word (m := ⟨7, 6⟩) (meth := k7m6) (c := k7c6) (by decide +kernel) rfl rfl rfl (by decide +kernel)
set_option maxRecDepth 65536 in
theorem w_c3 : (Jvm.Cond.code ({ cls := "java/lang/Object", name := "<init>", desc := "()V" } : Jvm.MethodName) object_method_1_code (1 : Nat) (Option.none : Option Jvm.ClassFile.FieldType)).before args0 about1 = true := code_word (m := ⟨0, 0⟩) (meth := k0m0) (c := k0c0) (by decide +kernel) rfl rfl rfl (by decide +kernel)
set_option maxRecDepth 65536 in
theorem w_c4 : (Jvm.Cond.code ({ cls := "java/lang/StringUTF16", name := "compress", desc := "([CII)[B" } : Jvm.MethodName) jdk_52_method_16_code (6 : Nat) (Option.some (Jvm.ClassFile.FieldType.array Jvm.ClassFile.FieldType.byte))).before args0 about1 = true := code_word (m := ⟨8, 2⟩) (meth := k8m2) (c := k8c2) (by decide +kernel) rfl rfl rfl (by decide +kernel)
set_option maxRecDepth 65536 in
theorem w_c5 : (Jvm.Cond.code ({ cls := "java/lang/StringUTF16", name := "compress", desc := "([CI[BII)I" } : Jvm.MethodName) jdk_52_method_21_code (7 : Nat) (Option.some Jvm.ClassFile.FieldType.int)).before args0 about1 = true := code_word (m := ⟨8, 3⟩) (meth := k8m3) (c := k8c3) (by decide +kernel) rfl rfl rfl (by decide +kernel)
set_option maxRecDepth 65536 in
theorem w_c6 : (Jvm.Cond.code ({ cls := "java/lang/StringUTF16", name := "coderFromArrayLen", desc := "([BI)B" } : Jvm.MethodName) jdk_52_method_15_code (2 : Nat) (Option.some Jvm.ClassFile.FieldType.byte)).before args0 about1 = true := code_word (m := ⟨8, 1⟩) (meth := k8m1) (c := k8c1) (by decide +kernel) rfl rfl rfl (by decide +kernel)
set_option maxRecDepth 65536 in
theorem w_c7 : (Jvm.Cond.code ({ cls := "com/example/onceward/onceward/HostPort", name := "<init>", desc := "(Ljava/lang/String;I)V" } : Jvm.MethodName) prog_9_method_1_code (3 : Nat) (Option.none : Option Jvm.ClassFile.FieldType)).before args0 about1 = true := code_word (m := ⟨9, 0⟩) (meth := k9m0) (c := k9c0) (by decide +kernel) rfl rfl rfl (by decide +kernel)
set_option maxRecDepth 65536 in
theorem w_c8 : (Jvm.Cond.code ({ cls := "com/example/onceward/onceward/HostPort", name := "toString", desc := "()Ljava/lang/String;" } : Jvm.MethodName) prog_9_method_7_code (1 : Nat) (Option.some (Jvm.ClassFile.FieldType.object "java/lang/String"))).before args0 about1 = true := code_word (m := ⟨9, 1⟩) (meth := k9m1) (c := k9c1) (by decide +kernel) rfl rfl rfl (by decide +kernel)
set_option maxRecDepth 65536 in
theorem w_c9 : (Jvm.Cond.code ({ cls := "java/lang/StringBuilder", name := "<init>", desc := "()V" } : Jvm.MethodName) jdk_67_method_1_code (1 : Nat) (Option.none : Option Jvm.ClassFile.FieldType)).before args0 about1 = true := code_word (m := ⟨12, 0⟩) (meth := k12m0) (c := k12c0) (by decide +kernel) rfl rfl rfl (by decide +kernel)
set_option maxRecDepth 65536 in
theorem w_c10 : (Jvm.Cond.code ({ cls := "java/lang/AbstractStringBuilder", name := "<init>", desc := "(I)V" } : Jvm.MethodName) jdk_68_method_2_code (2 : Nat) (Option.none : Option Jvm.ClassFile.FieldType)).before args0 about1 = true := code_word (m := ⟨11, 1⟩) (meth := k11m1) (c := k11c1) (by decide +kernel) rfl rfl rfl (by decide +kernel)
set_option maxRecDepth 65536 in
theorem w_c11 : (Jvm.Cond.code ({ cls := "java/lang/StringBuilder", name := "append", desc := "(Ljava/lang/String;)Ljava/lang/StringBuilder;" } : Jvm.MethodName) jdk_67_method_7_code (2 : Nat) (Option.some (Jvm.ClassFile.FieldType.object "java/lang/StringBuilder"))).before args0 about1 = true := code_word (m := ⟨12, 1⟩) (meth := k12m1) (c := k12c1) (by decide +kernel) rfl rfl rfl (by decide +kernel)
set_option maxRecDepth 65536 in
theorem w_c12 : (Jvm.Cond.code ({ cls := "java/lang/AbstractStringBuilder", name := "append", desc := "(Ljava/lang/String;)Ljava/lang/AbstractStringBuilder;" } : Jvm.MethodName) jdk_68_method_22_code (3 : Nat) (Option.some (Jvm.ClassFile.FieldType.object "java/lang/AbstractStringBuilder"))).before args0 about1 = true := code_word (m := ⟨11, 4⟩) (meth := k11m4) (c := k11c4) (by decide +kernel) rfl rfl rfl (by decide +kernel)
set_option maxRecDepth 65536 in
theorem w_c13 : (Jvm.Cond.code ({ cls := "java/lang/String", name := "length", desc := "()I" } : Jvm.MethodName) jdk_42_method_54_code (1 : Nat) (Option.some Jvm.ClassFile.FieldType.int)).before args0 about1 = true := code_word (m := ⟨7, 3⟩) (meth := k7m3) (c := k7c3) (by decide +kernel) rfl rfl rfl (by decide +kernel)
set_option maxRecDepth 65536 in
theorem w_c14 : (Jvm.Cond.code ({ cls := "java/lang/String", name := "coder", desc := "()B" } : Jvm.MethodName) jdk_42_method_152_code (1 : Nat) (Option.some Jvm.ClassFile.FieldType.byte)).before args0 about1 = true := code_word (m := ⟨7, 8⟩) (meth := k7m8) (c := k7c8) (by decide +kernel) rfl rfl rfl (by decide +kernel)
set_option maxRecDepth 65536 in
theorem w_c15 : (Jvm.Cond.code ({ cls := "java/lang/AbstractStringBuilder", name := "ensureCapacityInternal", desc := "(I)V" } : Jvm.MethodName) jdk_68_method_9_code (3 : Nat) (Option.none : Option Jvm.ClassFile.FieldType)).before args0 about1 = true := code_word (m := ⟨11, 3⟩) (meth := k11m3) (c := k11c3) (by decide +kernel) rfl rfl rfl (by decide +kernel)
set_option maxRecDepth 65536 in
theorem w_c16 : (Jvm.Cond.code ({ cls := "java/lang/AbstractStringBuilder", name := "putStringAt", desc := "(ILjava/lang/String;)V" } : Jvm.MethodName) jdk_68_method_73_code (3 : Nat) (Option.none : Option Jvm.ClassFile.FieldType)).before args0 about1 = true := code_word (m := ⟨11, 9⟩) (meth := k11m9) (c := k11c9) (by decide +kernel) rfl rfl rfl (by decide +kernel)
set_option maxRecDepth 65536 in
theorem w_c17 : (Jvm.Cond.code ({ cls := "java/lang/AbstractStringBuilder", name := "inflateIfNeededFor", desc := "(Ljava/lang/String;)V" } : Jvm.MethodName) jdk_68_method_71_code (2 : Nat) (Option.none : Option Jvm.ClassFile.FieldType)).before args0 about1 = true := code_word (m := ⟨11, 8⟩) (meth := k11m8) (c := k11c8) (by decide +kernel) rfl rfl rfl (by decide +kernel)
set_option maxRecDepth 65536 in
theorem w_c18 : (Jvm.Cond.code ({ cls := "java/lang/String", name := "getBytes", desc := "([BIB)V" } : Jvm.MethodName) jdk_42_method_147_code (4 : Nat) (Option.none : Option Jvm.ClassFile.FieldType)).before args0 about1 = true := code_word (m := ⟨7, 5⟩) (meth := k7m5) (c := k7c5) (by decide +kernel) rfl rfl rfl (by decide +kernel)
set_option maxRecDepth 65536 in
theorem w_c19 : (Jvm.Cond.code ({ cls := "java/lang/StringBuilder", name := "append", desc := "(I)Ljava/lang/StringBuilder;" } : Jvm.MethodName) jdk_67_method_15_code (2 : Nat) (Option.some (Jvm.ClassFile.FieldType.object "java/lang/StringBuilder"))).before args0 about1 = true := code_word (m := ⟨12, 2⟩) (meth := k12m2) (c := k12c2) (by decide +kernel) rfl rfl rfl (by decide +kernel)
set_option maxRecDepth 65536 in
theorem w_c20 : (Jvm.Cond.code ({ cls := "java/lang/AbstractStringBuilder", name := "append", desc := "(I)Ljava/lang/AbstractStringBuilder;" } : Jvm.MethodName) jdk_68_method_32_code (4 : Nat) (Option.some (Jvm.ClassFile.FieldType.object "java/lang/AbstractStringBuilder"))).before args0 about1 = true := code_word (m := ⟨11, 5⟩) (meth := k11m5) (c := k11c5) (by decide +kernel) rfl rfl rfl (by decide +kernel)
set_option maxRecDepth 65536 in
theorem w_c21 : (Jvm.Cond.code ({ cls := "java/lang/Integer", name := "stringSize", desc := "(I)I" } : Jvm.MethodName) jdk_33_method_13_code (4 : Nat) (Option.some Jvm.ClassFile.FieldType.int)).before args0 about1 = true := code_word (m := ⟨15, 1⟩) (meth := k15m1) (c := k15c1) (by decide +kernel) rfl rfl rfl (by decide +kernel)
set_option maxRecDepth 65536 in
theorem w_c22 : (Jvm.Cond.code ({ cls := "java/lang/AbstractStringBuilder", name := "isLatin1", desc := "()Z" } : Jvm.MethodName) jdk_68_method_68_code (1 : Nat) (Option.some Jvm.ClassFile.FieldType.boolean)).before args0 about1 = true := code_word (m := ⟨11, 7⟩) (meth := k11m7) (c := k11c7) (by decide +kernel) rfl rfl rfl (by decide +kernel)
set_option maxRecDepth 65536 in
theorem w_c23 : (Jvm.Cond.code ({ cls := "java/lang/Integer", name := "getChars", desc := "(II[B)I" } : Jvm.MethodName) jdk_33_method_12_code (7 : Nat) (Option.some Jvm.ClassFile.FieldType.int)).before args0 about1 = true := code_word (m := ⟨15, 0⟩) (meth := k15m0) (c := k15c0) (by decide +kernel) rfl rfl rfl (by decide +kernel)
set_option maxRecDepth 65536 in
theorem w_c24 : (Jvm.Cond.code ({ cls := "java/lang/StringBuilder", name := "toString", desc := "()Ljava/lang/String;" } : Jvm.MethodName) jdk_67_method_42_code (1 : Nat) (Option.some (Jvm.ClassFile.FieldType.object "java/lang/String"))).before args0 about1 = true := code_word (m := ⟨12, 3⟩) (meth := k12m3) (c := k12c3) (by decide +kernel) rfl rfl rfl (by decide +kernel)
set_option maxRecDepth 65536 in
theorem w_c25 : (Jvm.Cond.code ({ cls := "java/lang/String", name := "<init>", desc := "(Ljava/lang/StringBuilder;)V" } : Jvm.MethodName) jdk_42_method_53_code (2 : Nat) (Option.none : Option Jvm.ClassFile.FieldType)).before args0 about1 = true := code_word (m := ⟨7, 2⟩) (meth := k7m2) (c := k7c2) (by decide +kernel) rfl rfl rfl (by decide +kernel)
set_option maxRecDepth 65536 in
theorem w_c26 : (Jvm.Cond.code ({ cls := "java/lang/String", name := "<init>", desc := "(Ljava/lang/AbstractStringBuilder;Ljava/lang/Void;)V" } : Jvm.MethodName) jdk_42_method_150_code (5 : Nat) (Option.none : Option Jvm.ClassFile.FieldType)).before args0 about1 = true := code_word (m := ⟨7, 7⟩) (meth := k7m7) (c := k7c7) (by decide +kernel) rfl rfl rfl (by decide +kernel)
set_option maxRecDepth 65536 in
theorem w_c27 : (Jvm.Cond.code ({ cls := "java/lang/AbstractStringBuilder", name := "getValue", desc := "()[B" } : Jvm.MethodName) jdk_68_method_64_code (1 : Nat) (Option.some (Jvm.ClassFile.FieldType.array Jvm.ClassFile.FieldType.byte))).before args0 about1 = true := code_word (m := ⟨11, 6⟩) (meth := k11m6) (c := k11c6) (by decide +kernel) rfl rfl rfl (by decide +kernel)
set_option maxRecDepth 65536 in
theorem w_c28 : (Jvm.Cond.code ({ cls := "java/lang/StringBuilder", name := "length", desc := "()I" } : Jvm.MethodName) jdk_67_method_93_code (1 : Nat) (Option.some Jvm.ClassFile.FieldType.int)).before args0 about1 = true := code_word (m := ⟨12, 4⟩) (meth := k12m4) (c := k12c4) (by decide +kernel) rfl rfl rfl (by decide +kernel)
set_option maxRecDepth 65536 in
theorem w_c29 : (Jvm.Cond.code ({ cls := "java/lang/AbstractStringBuilder", name := "length", desc := "()I" } : Jvm.MethodName) jdk_68_method_6_code (1 : Nat) (Option.some Jvm.ClassFile.FieldType.int)).before args0 about1 = true := code_word (m := ⟨11, 2⟩) (meth := k11m2) (c := k11c2) (by decide +kernel) rfl rfl rfl (by decide +kernel)
set_option maxRecDepth 65536 in
theorem w_c30 : (Jvm.Cond.code ({ cls := "java/util/Arrays", name := "copyOfRange", desc := "([BII)[B" } : Jvm.MethodName) jdk_65_method_132_code (3 : Nat) (Option.some (Jvm.ClassFile.FieldType.array Jvm.ClassFile.FieldType.byte))).before args0 about1 = true := code_word (m := ⟨16, 2⟩) (meth := k16m2) (c := k16c2) (by decide +kernel) rfl rfl rfl (by decide +kernel)
set_option maxRecDepth 65536 in
theorem w_c31 : (Jvm.Cond.code ({ cls := "java/util/Arrays", name := "copyOfRangeByte", desc := "([BII)[B" } : Jvm.MethodName) jdk_65_method_133_code (5 : Nat) (Option.some (Jvm.ClassFile.FieldType.array Jvm.ClassFile.FieldType.byte))).before args0 about1 = true := code_word (m := ⟨16, 3⟩) (meth := k16m3) (c := k16c3) (by decide +kernel) rfl rfl rfl (by decide +kernel)
set_option maxRecDepth 65536 in
theorem w_c32 : (Jvm.Cond.code ({ cls := "java/util/Arrays", name := "checkLength", desc := "(II)V" } : Jvm.MethodName) jdk_65_method_131_code (2 : Nat) (Option.none : Option Jvm.ClassFile.FieldType)).before args0 about1 = true := code_word (m := ⟨16, 1⟩) (meth := k16m1) (c := k16c1) (by decide +kernel) rfl rfl rfl (by decide +kernel)
set_option maxRecDepth 65536 in
theorem w_c33 : (Jvm.Cond.code ({ cls := "java/lang/Math", name := "min", desc := "(II)I" } : Jvm.MethodName) jdk_29_method_69_code (2 : Nat) (Option.some Jvm.ClassFile.FieldType.int)).before args0 about1 = true := code_word (m := ⟨17, 1⟩) (meth := k17m1) (c := k17c1) (by decide +kernel) rfl rfl rfl (by decide +kernel)
set_option maxRecDepth 65536 in
theorem w_c34 : (Jvm.Cond.code ({ cls := "com/example/onceward/onceward/HostPortToStringPinLaw", name := "numDigits", desc := "(J)I" } : Jvm.MethodName) method_3_code (2 : Nat) (Option.some Jvm.ClassFile.FieldType.int)).before args0 about1 = true := code_word (m := ⟨1, 2⟩) (meth := k1m2) (c := k1c2) (by decide +kernel) rfl rfl rfl (by decide +kernel)
set_option maxRecDepth 65536 in
theorem w_c35 : (Jvm.Cond.code ({ cls := "java/lang/String", name := "charAt", desc := "(I)C" } : Jvm.MethodName) jdk_42_method_56_code (2 : Nat) (Option.some Jvm.ClassFile.FieldType.char)).before args0 about1 = true := code_word (m := ⟨7, 4⟩) (meth := k7m4) (c := k7c4) (by decide +kernel) rfl rfl rfl (by decide +kernel)
set_option maxRecDepth 65536 in
theorem w_c36 : (Jvm.Cond.code ({ cls := "java/lang/String", name := "isLatin1", desc := "()Z" } : Jvm.MethodName) jdk_42_method_154_code (1 : Nat) (Option.some Jvm.ClassFile.FieldType.boolean)).before args0 about1 = true := code_word (m := ⟨7, 9⟩) (meth := k7m9) (c := k7c9) (by decide +kernel) rfl rfl rfl (by decide +kernel)
set_option maxRecDepth 65536 in
theorem w_c37 : (Jvm.Cond.code ({ cls := "java/lang/StringLatin1", name := "charAt", desc := "([BI)C" } : Jvm.MethodName) jdk_43_method_2_code (2 : Nat) (Option.some Jvm.ClassFile.FieldType.char)).before args0 about1 = true := code_word (m := ⟨18, 1⟩) (meth := k18m1) (c := k18c1) (by decide +kernel) rfl rfl rfl (by decide +kernel)
set_option maxRecDepth 65536 in
theorem w_c38 : (Jvm.Cond.code ({ cls := "java/lang/String", name := "checkIndex", desc := "(II)V" } : Jvm.MethodName) jdk_42_method_155_code (2 : Nat) (Option.none : Option Jvm.ClassFile.FieldType)).before args0 about1 = true := code_word (m := ⟨7, 10⟩) (meth := k7m10) (c := k7c10) (by decide +kernel) rfl rfl rfl (by decide +kernel)
set_option maxRecDepth 65536 in
theorem w_c39 : (Jvm.Cond.code ({ cls := "jdk/internal/util/Preconditions", name := "checkIndex", desc := "(IILjava/util/function/BiFunction;)I" } : Jvm.MethodName) jdk_41_method_11_code (3 : Nat) (Option.some Jvm.ClassFile.FieldType.int)).before args0 about1 = true := code_word (m := ⟨19, 1⟩) (meth := k19m1) (c := k19c1) (by decide +kernel) rfl rfl rfl (by decide +kernel)
set_option maxRecDepth 65536 in
theorem w_c40 : (Jvm.Cond.code ({ cls := "com/example/onceward/onceward/HostPortToStringPinLaw", name := "digitOk", desc := "(Ljava/lang/String;IIJI)Z" } : Jvm.MethodName) method_5_code (9 : Nat) (Option.some Jvm.ClassFile.FieldType.boolean)).before args0 about1 = true := code_word (m := ⟨1, 4⟩) (meth := k1m4) (c := k1c4) (by decide +kernel) rfl rfl rfl (by decide +kernel)
set_option maxRecDepth 65536 in
theorem w_c41 : (Jvm.Cond.code ({ cls := "com/example/onceward/onceward/HostPortToStringPinLaw", name := "pow10", desc := "(I)J" } : Jvm.MethodName) method_4_code (2 : Nat) (Option.some Jvm.ClassFile.FieldType.long)).before args0 about1 = true := code_word (m := ⟨1, 3⟩) (meth := k1m3) (c := k1c3) (by decide +kernel) rfl rfl rfl (by decide +kernel)
def codes1 : List Jvm.Cond := [Jvm.Cond.code x code maxLocals ret, Jvm.Cond.code ({ cls := "java/lang/String", name := "<init>", desc := "([C)V" } : Jvm.MethodName) jdk_42_method_3_code (2 : Nat) (Option.none : Option Jvm.ClassFile.FieldType), Jvm.Cond.code ({ cls := "java/lang/String", name := "<init>", desc := "([CIILjava/lang/Void;)V" } : Jvm.MethodName) jdk_42_method_149_code (6 : Nat) (Option.none : Option Jvm.ClassFile.FieldType), Jvm.Cond.code ({ cls := "java/lang/Object", name := "<init>", desc := "()V" } : Jvm.MethodName) object_method_1_code (1 : Nat) (Option.none : Option Jvm.ClassFile.FieldType), Jvm.Cond.code ({ cls := "java/lang/StringUTF16", name := "compress", desc := "([CII)[B" } : Jvm.MethodName) jdk_52_method_16_code (6 : Nat) (Option.some (Jvm.ClassFile.FieldType.array Jvm.ClassFile.FieldType.byte)), Jvm.Cond.code ({ cls := "java/lang/StringUTF16", name := "compress", desc := "([CI[BII)I" } : Jvm.MethodName) jdk_52_method_21_code (7 : Nat) (Option.some Jvm.ClassFile.FieldType.int), Jvm.Cond.code ({ cls := "java/lang/StringUTF16", name := "coderFromArrayLen", desc := "([BI)B" } : Jvm.MethodName) jdk_52_method_15_code (2 : Nat) (Option.some Jvm.ClassFile.FieldType.byte), Jvm.Cond.code ({ cls := "com/example/onceward/onceward/HostPort", name := "<init>", desc := "(Ljava/lang/String;I)V" } : Jvm.MethodName) prog_9_method_1_code (3 : Nat) (Option.none : Option Jvm.ClassFile.FieldType), Jvm.Cond.code ({ cls := "com/example/onceward/onceward/HostPort", name := "toString", desc := "()Ljava/lang/String;" } : Jvm.MethodName) prog_9_method_7_code (1 : Nat) (Option.some (Jvm.ClassFile.FieldType.object "java/lang/String")), Jvm.Cond.code ({ cls := "java/lang/StringBuilder", name := "<init>", desc := "()V" } : Jvm.MethodName) jdk_67_method_1_code (1 : Nat) (Option.none : Option Jvm.ClassFile.FieldType), Jvm.Cond.code ({ cls := "java/lang/AbstractStringBuilder", name := "<init>", desc := "(I)V" } : Jvm.MethodName) jdk_68_method_2_code (2 : Nat) (Option.none : Option Jvm.ClassFile.FieldType), Jvm.Cond.code ({ cls := "java/lang/StringBuilder", name := "append", desc := "(Ljava/lang/String;)Ljava/lang/StringBuilder;" } : Jvm.MethodName) jdk_67_method_7_code (2 : Nat) (Option.some (Jvm.ClassFile.FieldType.object "java/lang/StringBuilder")), Jvm.Cond.code ({ cls := "java/lang/AbstractStringBuilder", name := "append", desc := "(Ljava/lang/String;)Ljava/lang/AbstractStringBuilder;" } : Jvm.MethodName) jdk_68_method_22_code (3 : Nat) (Option.some (Jvm.ClassFile.FieldType.object "java/lang/AbstractStringBuilder")), Jvm.Cond.code ({ cls := "java/lang/String", name := "length", desc := "()I" } : Jvm.MethodName) jdk_42_method_54_code (1 : Nat) (Option.some Jvm.ClassFile.FieldType.int), Jvm.Cond.code ({ cls := "java/lang/String", name := "coder", desc := "()B" } : Jvm.MethodName) jdk_42_method_152_code (1 : Nat) (Option.some Jvm.ClassFile.FieldType.byte), Jvm.Cond.code ({ cls := "java/lang/AbstractStringBuilder", name := "ensureCapacityInternal", desc := "(I)V" } : Jvm.MethodName) jdk_68_method_9_code (3 : Nat) (Option.none : Option Jvm.ClassFile.FieldType), Jvm.Cond.code ({ cls := "java/lang/AbstractStringBuilder", name := "putStringAt", desc := "(ILjava/lang/String;)V" } : Jvm.MethodName) jdk_68_method_73_code (3 : Nat) (Option.none : Option Jvm.ClassFile.FieldType), Jvm.Cond.code ({ cls := "java/lang/AbstractStringBuilder", name := "inflateIfNeededFor", desc := "(Ljava/lang/String;)V" } : Jvm.MethodName) jdk_68_method_71_code (2 : Nat) (Option.none : Option Jvm.ClassFile.FieldType), Jvm.Cond.code ({ cls := "java/lang/String", name := "getBytes", desc := "([BIB)V" } : Jvm.MethodName) jdk_42_method_147_code (4 : Nat) (Option.none : Option Jvm.ClassFile.FieldType), Jvm.Cond.code ({ cls := "java/lang/StringBuilder", name := "append", desc := "(I)Ljava/lang/StringBuilder;" } : Jvm.MethodName) jdk_67_method_15_code (2 : Nat) (Option.some (Jvm.ClassFile.FieldType.object "java/lang/StringBuilder")), Jvm.Cond.code ({ cls := "java/lang/AbstractStringBuilder", name := "append", desc := "(I)Ljava/lang/AbstractStringBuilder;" } : Jvm.MethodName) jdk_68_method_32_code (4 : Nat) (Option.some (Jvm.ClassFile.FieldType.object "java/lang/AbstractStringBuilder")), Jvm.Cond.code ({ cls := "java/lang/Integer", name := "stringSize", desc := "(I)I" } : Jvm.MethodName) jdk_33_method_13_code (4 : Nat) (Option.some Jvm.ClassFile.FieldType.int), Jvm.Cond.code ({ cls := "java/lang/AbstractStringBuilder", name := "isLatin1", desc := "()Z" } : Jvm.MethodName) jdk_68_method_68_code (1 : Nat) (Option.some Jvm.ClassFile.FieldType.boolean), Jvm.Cond.code ({ cls := "java/lang/Integer", name := "getChars", desc := "(II[B)I" } : Jvm.MethodName) jdk_33_method_12_code (7 : Nat) (Option.some Jvm.ClassFile.FieldType.int), Jvm.Cond.code ({ cls := "java/lang/StringBuilder", name := "toString", desc := "()Ljava/lang/String;" } : Jvm.MethodName) jdk_67_method_42_code (1 : Nat) (Option.some (Jvm.ClassFile.FieldType.object "java/lang/String")), Jvm.Cond.code ({ cls := "java/lang/String", name := "<init>", desc := "(Ljava/lang/StringBuilder;)V" } : Jvm.MethodName) jdk_42_method_53_code (2 : Nat) (Option.none : Option Jvm.ClassFile.FieldType), Jvm.Cond.code ({ cls := "java/lang/String", name := "<init>", desc := "(Ljava/lang/AbstractStringBuilder;Ljava/lang/Void;)V" } : Jvm.MethodName) jdk_42_method_150_code (5 : Nat) (Option.none : Option Jvm.ClassFile.FieldType), Jvm.Cond.code ({ cls := "java/lang/AbstractStringBuilder", name := "getValue", desc := "()[B" } : Jvm.MethodName) jdk_68_method_64_code (1 : Nat) (Option.some (Jvm.ClassFile.FieldType.array Jvm.ClassFile.FieldType.byte)), Jvm.Cond.code ({ cls := "java/lang/StringBuilder", name := "length", desc := "()I" } : Jvm.MethodName) jdk_67_method_93_code (1 : Nat) (Option.some Jvm.ClassFile.FieldType.int), Jvm.Cond.code ({ cls := "java/lang/AbstractStringBuilder", name := "length", desc := "()I" } : Jvm.MethodName) jdk_68_method_6_code (1 : Nat) (Option.some Jvm.ClassFile.FieldType.int), Jvm.Cond.code ({ cls := "java/util/Arrays", name := "copyOfRange", desc := "([BII)[B" } : Jvm.MethodName) jdk_65_method_132_code (3 : Nat) (Option.some (Jvm.ClassFile.FieldType.array Jvm.ClassFile.FieldType.byte)), Jvm.Cond.code ({ cls := "java/util/Arrays", name := "copyOfRangeByte", desc := "([BII)[B" } : Jvm.MethodName) jdk_65_method_133_code (5 : Nat) (Option.some (Jvm.ClassFile.FieldType.array Jvm.ClassFile.FieldType.byte)), Jvm.Cond.code ({ cls := "java/util/Arrays", name := "checkLength", desc := "(II)V" } : Jvm.MethodName) jdk_65_method_131_code (2 : Nat) (Option.none : Option Jvm.ClassFile.FieldType), Jvm.Cond.code ({ cls := "java/lang/Math", name := "min", desc := "(II)I" } : Jvm.MethodName) jdk_29_method_69_code (2 : Nat) (Option.some Jvm.ClassFile.FieldType.int), Jvm.Cond.code ({ cls := "com/example/onceward/onceward/HostPortToStringPinLaw", name := "numDigits", desc := "(J)I" } : Jvm.MethodName) method_3_code (2 : Nat) (Option.some Jvm.ClassFile.FieldType.int), Jvm.Cond.code ({ cls := "java/lang/String", name := "charAt", desc := "(I)C" } : Jvm.MethodName) jdk_42_method_56_code (2 : Nat) (Option.some Jvm.ClassFile.FieldType.char), Jvm.Cond.code ({ cls := "java/lang/String", name := "isLatin1", desc := "()Z" } : Jvm.MethodName) jdk_42_method_154_code (1 : Nat) (Option.some Jvm.ClassFile.FieldType.boolean), Jvm.Cond.code ({ cls := "java/lang/StringLatin1", name := "charAt", desc := "([BI)C" } : Jvm.MethodName) jdk_43_method_2_code (2 : Nat) (Option.some Jvm.ClassFile.FieldType.char), Jvm.Cond.code ({ cls := "java/lang/String", name := "checkIndex", desc := "(II)V" } : Jvm.MethodName) jdk_42_method_155_code (2 : Nat) (Option.none : Option Jvm.ClassFile.FieldType), Jvm.Cond.code ({ cls := "jdk/internal/util/Preconditions", name := "checkIndex", desc := "(IILjava/util/function/BiFunction;)I" } : Jvm.MethodName) jdk_41_method_11_code (3 : Nat) (Option.some Jvm.ClassFile.FieldType.int), Jvm.Cond.code ({ cls := "com/example/onceward/onceward/HostPortToStringPinLaw", name := "digitOk", desc := "(Ljava/lang/String;IIJI)Z" } : Jvm.MethodName) method_5_code (9 : Nat) (Option.some Jvm.ClassFile.FieldType.boolean), Jvm.Cond.code ({ cls := "com/example/onceward/onceward/HostPortToStringPinLaw", name := "pow10", desc := "(I)J" } : Jvm.MethodName) method_4_code (2 : Nat) (Option.some Jvm.ClassFile.FieldType.long)]
set_option maxRecDepth 65536 in
theorem codes_eq : words1.filter isCode = codes1 := rfl
theorem w_codes : ∀ c ∈ words1.filter isCode, c.before args0 about1 = true := by
  rw [codes_eq]
  intro c hc
  simp only [codes1, List.mem_cons, List.not_mem_nil, or_false] at hc
  rcases hc with rfl | rfl | rfl | rfl | rfl | rfl | rfl | rfl | rfl | rfl | rfl | rfl | rfl | rfl | rfl | rfl | rfl | rfl | rfl | rfl | rfl | rfl | rfl | rfl | rfl | rfl | rfl | rfl | rfl | rfl | rfl | rfl | rfl | rfl | rfl | rfl | rfl | rfl | rfl | rfl | rfl | rfl
  · exact w_c0
  · exact w_c1
  · exact w_c2
  · exact w_c3
  · exact w_c4
  · exact w_c5
  · exact w_c6
  · exact w_c7
  · exact w_c8
  · exact w_c9
  · exact w_c10
  · exact w_c11
  · exact w_c12
  · exact w_c13
  · exact w_c14
  · exact w_c15
  · exact w_c16
  · exact w_c17
  · exact w_c18
  · exact w_c19
  · exact w_c20
  · exact w_c21
  · exact w_c22
  · exact w_c23
  · exact w_c24
  · exact w_c25
  · exact w_c26
  · exact w_c27
  · exact w_c28
  · exact w_c29
  · exact w_c30
  · exact w_c31
  · exact w_c32
  · exact w_c33
  · exact w_c34
  · exact w_c35
  · exact w_c36
  · exact w_c37
  · exact w_c38
  · exact w_c39
  · exact w_c40
  · exact w_c41
set_option maxRecDepth 65536 in
theorem w_t1 : (words1.take 24).all (fun c => isCode c || c.before args0 about1) = true := by decide +kernel
set_option maxRecDepth 65536 in
theorem w_t2 : ((words1.drop 24).take 24).all (fun c => isCode c || c.before args0 about1) = true := by decide +kernel
set_option maxRecDepth 65536 in
theorem w_t3 : (((words1.drop 24).drop 24).take 24).all (fun c => isCode c || c.before args0 about1) = true := by decide +kernel
set_option maxRecDepth 65536 in
theorem w_t4 : ((((words1.drop 24).drop 24).drop 24).take 24).all (fun c => isCode c || c.before args0 about1) = true := by decide +kernel
set_option maxRecDepth 65536 in
theorem w_t5 : (((((words1.drop 24).drop 24).drop 24).drop 24).take 24).all (fun c => isCode c || c.before args0 about1) = true := by decide +kernel
set_option maxRecDepth 65536 in
theorem w_t6 : ((((((words1.drop 24).drop 24).drop 24).drop 24).drop 24).take 24).all (fun c => isCode c || c.before args0 about1) = true := by decide +kernel
set_option maxRecDepth 65536 in
theorem w_t7 : (((((((words1.drop 24).drop 24).drop 24).drop 24).drop 24).drop 24).take 24).all (fun c => isCode c || c.before args0 about1) = true := by decide +kernel
set_option maxRecDepth 65536 in
theorem w_t8 : ((((((((words1.drop 24).drop 24).drop 24).drop 24).drop 24).drop 24).drop 24).take 24).all (fun c => isCode c || c.before args0 about1) = true := by decide +kernel
set_option maxRecDepth 65536 in
theorem w_t9 : (((((((((words1.drop 24).drop 24).drop 24).drop 24).drop 24).drop 24).drop 24).drop 24).take 24).all (fun c => isCode c || c.before args0 about1) = true := by decide +kernel
set_option maxRecDepth 65536 in
theorem w_t10 : (((((((((words1.drop 24).drop 24).drop 24).drop 24).drop 24).drop 24).drop 24).drop 24).drop 24).all (fun c => isCode c || c.before args0 about1) = true := by decide +kernel
theorem w_tables : (allAtoms (Jvm.Cond.code x code maxLocals ret :: tables_1)).before args0 about1 = true := by
  rw [allAtoms_all]
  show words1.all (fun c => c.before args0 about1) = true
  refine all_split ?_ w_codes
  rw [← List.take_append_drop 24 words1, List.all_append, w_t1, ← List.take_append_drop 24 (words1.drop 24), List.all_append, w_t2, ← List.take_append_drop 24 ((words1.drop 24).drop 24), List.all_append, w_t3, ← List.take_append_drop 24 (((words1.drop 24).drop 24).drop 24), List.all_append, w_t4, ← List.take_append_drop 24 ((((words1.drop 24).drop 24).drop 24).drop 24), List.all_append, w_t5, ← List.take_append_drop 24 (((((words1.drop 24).drop 24).drop 24).drop 24).drop 24), List.all_append, w_t6, ← List.take_append_drop 24 ((((((words1.drop 24).drop 24).drop 24).drop 24).drop 24).drop 24), List.all_append, w_t7, ← List.take_append_drop 24 (((((((words1.drop 24).drop 24).drop 24).drop 24).drop 24).drop 24).drop 24), List.all_append, w_t8, ← List.take_append_drop 24 ((((((((words1.drop 24).drop 24).drop 24).drop 24).drop 24).drop 24).drop 24).drop 24), List.all_append, w_t9, w_t10]
  rfl
set_option maxRecDepth 65536 in
theorem w_rest : rest_1_c.before args0 about1 = true := by decide +kernel
set_option maxRecDepth 65536 in
theorem w_case : (Jvm.Cond.and given_1 narrow_1).before args0 about1 = true := by decide +kernel
set_option maxRecDepth 65536 in
theorem w_consts : constsHeld consts_1 about1 := Jvm.Lit.constsHeldB_iff.mp (by decide +kernel)
theorem w_applies : (headSpec (Jvm.Cond.code x code maxLocals ret :: tables_1) room_1).applies x e0.platform about1 = true :=
  (Spec.applies_iff w_frames).mpr ⟨w_running, w_runnable, w_alone, w_named, w_hears, w_ripe, w_room, w_tables⟩
theorem atStart : AtStart classFile x code maxLocals ret World_1 tables_1 room_1 Calls_1 rest_1 Pre_1 launch0 p0 e0 about1 theMethod args0 below0 :=
  ⟨lists_1, trivial, launch0.admits_env _ _ _, launch0.least_env, fairChoices_fair.cas, fairChoices_fair.clock, w_frames, w_args, w_heap, w_applies, ⟨w_consts, trivial⟩, w_rest, w_case⟩
end start1
theorem witness_1 : WitnessClaimed_1 := ⟨start1.p0, start1.e0, start1.about1, start1.theMethod, start1.args0, start1.below0, start1.atStart⟩
end Jvm.Pilot.@@N@@
