import JvmDerived
import JvmDerived.Pilot.@@N@@Statement
import JvmDerived.Pilot.@@N@@Code
set_option linter.unusedVariables false
set_option linter.unusedSimpArgs false
/- laws to paste: Road.backV, Road.eqW, Road.codOf (cut by pick.py; bodies as the Statement names them) -/
namespace Jvm.Pilot.@@N@@
namespace StrChars
open Jvm Sem ClassFile Op Lib Jvm.Stand Jvm.Free.XT Jvm.Free.ALB Jvm.Free.JM Jvm.Free
open Jvm.Lib.Cold (StaticIs)
/-- a char array whose places are chars -/
def Ch (a : Addr) (A : Cell) (U : State) : Prop := Arr .char a A U ∧ Typed .char A
theorem Ch.mv {a : Addr} {A : Cell} {U U' : State} (h : Ch a A U) (hal : U.vm.Alike U'.vm) (hh : U'.heap = U.heap) : Ch a A U' := ⟨h.1.mv hal hh, h.2⟩
theorem Ch.keep {a : Addr} {A : Cell} {U U' : State} (h : Ch a A U) (hal : U.vm.Alike U'.vm) (hk : U'.heap[a]? = some A) : Ch a A U' := ⟨h.1.keep hal hk, h.2⟩
/-- what place i of a char[]'s cell holds -/
def cv (A : Cell) (i : Nat) : Int32 := match A.slots[i]? with | some (.int x) => x | _ => 0
theorem Ch.get {a : Addr} {A : Cell} {U : State} (h : Ch a A U) {i : Nat} (hi : i < A.slots.size) : A.slots[i]? = some (.int (cv A i)) := by
  have e := Array.getElem?_eq_getElem hi
  have f := h.2 i _ e
  unfold cv; rw [e]
  generalize A.slots[i] = v at f
  cases v <;> simp [fits] at f ⊢
/-- the byte that i2b leaves of a char -/
def lo8 (x : Int32) : Int32 := x.toInt8.toInt32
theorem fits_lo8 (y : Int32) : fits .byte (.int (lo8 y)) = true := by
  have h1 := y.toInt8.le_toInt
  have h2 := y.toInt8.toInt_lt
  simp only [lo8, fits, Bool.and_eq_true, decide_eq_true_eq, Int32.le_iff_toInt_le, Int8.toInt_toInt32, show (-128 : Int32).toInt = -128 from by decide, show (127 : Int32).toInt = 127 from by decide]
  omega
/-- A' is A but that each place j of lo .. hi - 1 holds f j -/
def Laid (A A' : Cell) (lo hi : Nat) (f : Nat → Value) : Prop := A'.cls = A.cls ∧ A'.vm = A.vm ∧ A'.slots.size = A.slots.size ∧ ∀ i, A'.slots[i]? = if lo ≤ i ∧ i < hi then some (f i) else A.slots[i]?
theorem Laid.zero (A : Cell) (lo : Nat) (f : Nat → Value) : Laid A A lo (lo + 0) f := ⟨rfl, rfl, rfl, fun i => by rw [if_neg (by omega)]⟩
theorem Laid.step {A Ak : Cell} {lo k : Nat} {f : Nat → Value} {v : Value} (h : Laid A Ak lo k f) (hlo : lo ≤ k) (hk : k < Ak.slots.size) (hv : v = f k) : Laid A (Ak.setSlot k v) lo (k + 1) f := by
  refine ⟨h.1, h.2.1, by simpa [Cell.setSlot] using h.2.2.1, fun i => ?_⟩
  by_cases e : k = i
  · subst e; rw [Cell.slots_setSlot_self v hk, if_pos (by omega), hv]
  · rw [Cell.slots_setSlot_ne v e, h.2.2.2 i]
    by_cases q : lo ≤ i ∧ i < k
    · rw [if_pos q, if_pos (by omega)]
    · rw [if_neg q, if_neg (by omega)]
def U16 : String := "java/lang/StringUTF16"
namespace Cmp5
def yN : MethodName := ⟨"java/lang/StringUTF16", "compress", "([CI[BII)I"⟩
abbrev yB : ByteArray := jdk_52_method_21_code
theorem d0 : decode yB 0 = .ok (.iconst 0, 1) := by decide +kernel
theorem d1 : decode yB 1 = .ok (.istore 5, 2) := by decide +kernel
theorem d3 : decode yB 3 = .ok (.iload 5, 2) := by decide +kernel
theorem d5 : decode yB 5 = .ok (.iload 4, 2) := by decide +kernel
theorem d7 : decode yB 7 = .ok (.if_icmp (.ge) 37, 3) := by decide +kernel
theorem d10 : decode yB 10 = .ok (.aload_n 0, 1) := by decide +kernel
theorem d11 : decode yB 11 = .ok (.iload_n 1, 1) := by decide +kernel
theorem d12 : decode yB 12 = .ok (.caload, 1) := by decide +kernel
theorem d13 : decode yB 13 = .ok (.istore 6, 2) := by decide +kernel
theorem d15 : decode yB 15 = .ok (.iload 6, 2) := by decide +kernel
theorem d17 : decode yB 17 = .ok (.sipush 255, 3) := by decide +kernel
theorem d20 : decode yB 20 = .ok (.if_icmp (.le) 6, 3) := by decide +kernel
theorem d26 : decode yB 26 = .ok (.aload_n 2, 1) := by decide +kernel
theorem d27 : decode yB 27 = .ok (.iload_n 3, 1) := by decide +kernel
theorem d28 : decode yB 28 = .ok (.iload 6, 2) := by decide +kernel
theorem d30 : decode yB 30 = .ok (.i2b, 1) := by decide +kernel
theorem d31 : decode yB 31 = .ok (.bastore, 1) := by decide +kernel
theorem d32 : decode yB 32 = .ok (.iinc 1 1, 3) := by decide +kernel
theorem d35 : decode yB 35 = .ok (.iinc 3 1, 3) := by decide +kernel
theorem d38 : decode yB 38 = .ok (.iinc 5 1, 3) := by decide +kernel
theorem d41 : decode yB 41 = .ok (.goto (-38), 3) := by decide +kernel
theorem d44 : decode yB 44 = .ok (.iload 4, 2) := by decide +kernel
theorem d46 : decode yB 46 = .ok (.ireturn, 1) := by decide +kernel
def site : List Cond := []
def tab : Cond := tabOf yN yB 7 (some .int) site
def P (b : Addr) (A : Cell) (d : Addr) (B : Cell) (o q len : Nat) (args : Array Value) (s : State) : Prop := args = #[.ref b, .int (Int32.ofNat o), .ref d, .int (Int32.ofNat q), .int (Int32.ofNat len)] ∧ Ch b A s ∧ Arr .byte d B s ∧ b ≠ d ∧ o + len ≤ A.slots.size ∧ q + len ≤ B.slots.size ∧ ∀ i, i < len → ¬ 255 < cv A (o + i)
def E (b : Addr) (A : Cell) (d : Addr) (B : Cell) (o q len : Nat) (r : Option Value) (s u : State) : Prop := r = some (.int (Int32.ofNat len)) ∧ ∃ B', Put d B' s u ∧ Laid B B' q (q + len) (fun j => Value.int (lo8 (cv A (o + (j - q)))))
/-- no char of the range above 255: len; the places written hold each char's low byte -/
theorem law (l : Launch) (b : Addr) (A : Cell) (d : Addr) (B : Cell) (o q len : Nat) : Law l yN 5 5 0 0 yB 7 (some .int) site (P b A d B o q len) (E b A d B o q len) (copyLocs d q len) 0 0 := by
  refine Law.of_walk (plainFor_of_name (by decide +kernel)) (by decide +kernel) (by decide +kernel) (by decide) (fun _ _ h => by rw [h.1]; rfl) (fun _ U U' hal hh h => ⟨h.1, h.2.1.mv hal hh, h.2.2.1.mv hal hh, h.2.2.2⟩) (fun r U U' V V' h1 hal h2 h => ⟨h.1, h.2.elim fun B' q => ⟨B', q.1.mv h1 h2, q.2⟩⟩) ?_
  intro p e s m args below meth c s₁ X0 hexec hbytes hml hret hlk hnm hown hh0 W hP
  obtain ⟨rfl, hA, hB, hne, l1, l2, hp⟩ := hP
  have c1 : Steps p.tables e below (s₁.setTop (entryFrame m #[.ref b, .int (Int32.ofNat o), .ref d, .int (Int32.ofNat q), .int (Int32.ofNat len)] 7)) (s₁.setTop (mkF m 0 #[.val (.ref b), .val (.int (Int32.ofNat o)), .val (.ref d), .val (.int (Int32.ofNat q)), .val (.int (Int32.ofNat len)), .unset, .unset] [])) := entry rfl
  have hA0 := hA.1.mv X0.warmed.alike hh0
  have hB0 := hB.mv X0.warmed.alike hh0
  have a31 := hA.1.2.2.2
  have c2 : Steps p.tables e below (s₁.setTop (entryFrame m #[.ref b, .int (Int32.ofNat o), .ref d, .int (Int32.ofNat q), .int (Int32.ofNat len)] 7)) (s₁.setTop (mkF m 3 #[.val (.ref b), .val (.int (Int32.ofNat o)), .val (.ref d), .val (.int (Int32.ofNat q)), .val (.int (Int32.ofNat len)), .val (.int 0), .unset] [])) := c1.trans (by
    refine iconstV X0.here hexec rfl 0 (hb hbytes d0) (by decide) ?_
    refine XS.istore X0.here hexec rfl (hb hbytes d1) rfl rfl ?_
    exact Steps.refl _)
  have loop : ∀ (r i : Nat), i + r = len → ∀ (z : Slot), (z = .unset ∨ ∃ w, z = .val w ∧ w.category = 1) → ∀ (Tl : State) (Bk : Cell), Stand p l e { frames := 0, locals := 0, cells := 0, slots := 0 } s m #[.ref b, .int (Int32.ofNat o), .ref d, .int (Int32.ofNat q), .int (Int32.ofNat len)] below meth c Tl ([] ++ copyLocs d q i) 0 0 → Put d Bk s₁ Tl → Laid B Bk q (q + i) (fun j => Value.int (lo8 (cv A (o + (j - q))))) →
      Steps p.tables e below (s₁.setTop (entryFrame m #[.ref b, .int (Int32.ofNat o), .ref d, .int (Int32.ofNat q), .int (Int32.ofNat len)] 7)) (Tl.setTop (mkF m 3 #[.val (.ref b), .val (.int (Int32.ofNat (o + i))), .val (.ref d), .val (.int (Int32.ofNat (q + i))), .val (.int (Int32.ofNat len)), .val (.int (Int32.ofNat i)), z] [])) → ∃ (T' : State) (B' : Cell) (z' : Slot), Stand p l e { frames := 0, locals := 0, cells := 0, slots := 0 } s m #[.ref b, .int (Int32.ofNat o), .ref d, .int (Int32.ofNat q), .int (Int32.ofNat len)] below meth c T' ([] ++ copyLocs d q len) 0 0 ∧ Put d B' s₁ T' ∧ Laid B B' q (q + len) (fun j => Value.int (lo8 (cv A (o + (j - q))))) ∧
      Steps p.tables e below (s₁.setTop (entryFrame m #[.ref b, .int (Int32.ofNat o), .ref d, .int (Int32.ofNat q), .int (Int32.ofNat len)] 7)) (T'.setTop (mkF m 3 #[.val (.ref b), .val (.int (Int32.ofNat (o + len))), .val (.ref d), .val (.int (Int32.ofNat (q + len))), .val (.int (Int32.ofNat len)), .val (.int (Int32.ofNat len)), z'] [])) := by
    intro r
    induction r with
    | zero =>
      intro i hi z hz Tl Bk Xl pl fl cl
      have hil : i = len := by omega
      rw [hil] at Xl fl cl
      exact ⟨Tl, Bk, z, Xl, pl, fl, cl⟩
    | succ r ih =>
      intro i hi z hz Tl Bk Xl pl fl cl
      have all := X0.warmed.alike.symm.trans Xl.warmed.alike
      have hAl := hA0.keep all (pl.other hne hA0.1)
      have hBk := hB0.like all pl.1 fl.1 fl.2.1 fl.2.2.1
      have hlt : q + i < Bk.slots.size := by rw [fl.2.2.1]; omega
      have c3 : Steps p.tables e below (s₁.setTop (entryFrame m #[.ref b, .int (Int32.ofNat o), .ref d, .int (Int32.ofNat q), .int (Int32.ofNat len)] 7)) (Tl.setTop (mkF m 12 #[.val (.ref b), .val (.int (Int32.ofNat (o + i))), .val (.ref d), .val (.int (Int32.ofNat (q + i))), .val (.int (Int32.ofNat len)), .val (.int (Int32.ofNat i)), z] [.int (Int32.ofNat (o + i)), .ref b])) := cl.trans (by
        refine XS.iload Xl.here hexec rfl (hb hbytes d3) rfl ?_
        refine XS.iload Xl.here hexec rfl (hb hbytes d5) rfl ?_
        refine XS.icmpNo Xl.here hexec rfl (hb hbytes d7) rfl (ii_ge_f (lt32 (by omega) (by omega))) ?_
        refine XS.aloadN Xl.here hexec rfl (hb hbytes d10) rfl rfl ?_
        refine XS.iloadN Xl.here hexec rfl (hb hbytes d11) rfl ?_
        exact Steps.refl _)
      have c4 : Steps p.tables e below (s₁.setTop (entryFrame m #[.ref b, .int (Int32.ofNat o), .ref d, .int (Int32.ofNat q), .int (Int32.ofNat len)] 7)) (Tl.setTop (mkF m 13 #[.val (.ref b), .val (.int (Int32.ofNat (o + i))), .val (.ref d), .val (.int (Int32.ofNat (q + i))), .val (.int (Int32.ofNat len)), .val (.int (Int32.ofNat i)), z] [.int (cv A (o + i))])) := c3.trans (by
        refine Xl.aget hexec hAl rfl (hA.get (i := o + i) (by omega)) rfl rfl (hb hbytes d12) ?_
        exact Steps.refl _)
      have c5 : Steps p.tables e below (s₁.setTop (entryFrame m #[.ref b, .int (Int32.ofNat o), .ref d, .int (Int32.ofNat q), .int (Int32.ofNat len)] 7)) (Tl.setTop (mkF m 15 #[.val (.ref b), .val (.int (Int32.ofNat (o + i))), .val (.ref d), .val (.int (Int32.ofNat (q + i))), .val (.int (Int32.ofNat len)), .val (.int (Int32.ofNat i)), .val (.int (cv A (o + i)))] [])) := c4.trans (by
        refine XS.istoreS Xl.here hexec rfl (hb hbytes d13) rfl rfl hz ?_
        exact Steps.refl _)
      have c6 : Steps p.tables e below (s₁.setTop (entryFrame m #[.ref b, .int (Int32.ofNat o), .ref d, .int (Int32.ofNat q), .int (Int32.ofNat len)] 7)) (Tl.setTop (mkF m 31 #[.val (.ref b), .val (.int (Int32.ofNat (o + i))), .val (.ref d), .val (.int (Int32.ofNat (q + i))), .val (.int (Int32.ofNat len)), .val (.int (Int32.ofNat i)), .val (.int (cv A (o + i)))] [.int (lo8 (cv A (o + i))), .int (Int32.ofNat (q + i)), .ref d])) := c5.trans (by
        refine XS.iload Xl.here hexec rfl (hb hbytes d15) rfl ?_
        refine sipushV Xl.here hexec rfl 255 (hb hbytes d17) (by decide) ?_
        refine XS.icmpYes Xl.here hexec rfl (pc0 := 20) rfl (hb hbytes d20) rfl (ii_le_t (hp i (by omega))) (by decide) rfl ?_
        refine XS.aloadN Xl.here hexec rfl (hb hbytes d26) rfl rfl ?_
        refine XS.iloadN Xl.here hexec rfl (hb hbytes d27) rfl ?_
        refine XS.iload Xl.here hexec rfl (hb hbytes d28) rfl ?_
        refine i2b Xl.here hexec rfl (hb hbytes d30) rfl ?_
        exact Steps.refl _)
      obtain ⟨T7, X7, p7, st7⟩ := Xl.aput hexec hBk rfl hlt rfl (fits_lo8 (cv A (o + i))) (g := (mkF m 31 #[.val (.ref b), .val (.int (Int32.ofNat (o + i))), .val (.ref d), .val (.int (Int32.ofNat (q + i))), .val (.int (Int32.ofNat len)), .val (.int (Int32.ofNat i)), .val (.int (cv A (o + i)))] [.int (lo8 (cv A (o + i))), .int (Int32.ofNat (q + i)), .ref d])) rfl (rest := []) rfl (hb hbytes d31)
      have c8 : Steps p.tables e below (s₁.setTop (entryFrame m #[.ref b, .int (Int32.ofNat o), .ref d, .int (Int32.ofNat q), .int (Int32.ofNat len)] 7)) (T7.setTop (mkF m 32 #[.val (.ref b), .val (.int (Int32.ofNat (o + i))), .val (.ref d), .val (.int (Int32.ofNat (q + i))), .val (.int (Int32.ofNat len)), .val (.int (Int32.ofNat i)), .val (.int (cv A (o + i)))] [])) := c6.trans (st7 _ (Steps.refl _))
      have c9 : Steps p.tables e below (s₁.setTop (entryFrame m #[.ref b, .int (Int32.ofNat o), .ref d, .int (Int32.ofNat q), .int (Int32.ofNat len)] 7)) (T7.setTop (mkF m 3 #[.val (.ref b), .val (.int (Int32.ofNat (o + i) + 1)), .val (.ref d), .val (.int (Int32.ofNat (q + i) + 1)), .val (.int (Int32.ofNat len)), .val (.int (Int32.ofNat i + 1)), .val (.int (cv A (o + i)))] [])) := c8.trans (by
        refine iincV X7.here hexec rfl 1 (hb hbytes d32) (by decide) rfl rfl ?_
        refine iincV X7.here hexec rfl 1 (hb hbytes d35) (by decide) rfl rfl ?_
        refine iincV X7.here hexec rfl 1 (hb hbytes d38) (by decide) rfl rfl ?_
        refine XS.goto X7.here hexec rfl (pc0 := 41) rfl (hb hbytes d41) (by decide) rfl ?_
        exact Steps.refl _)
      have c10 : Steps p.tables e below (s₁.setTop (entryFrame m #[.ref b, .int (Int32.ofNat o), .ref d, .int (Int32.ofNat q), .int (Int32.ofNat len)] 7)) (T7.setTop (mkF m 3 #[.val (.ref b), .val (.int (Int32.ofNat (o + (i + 1)))), .val (.ref d), .val (.int (Int32.ofNat (q + (i + 1)))), .val (.int (Int32.ofNat len)), .val (.int (Int32.ofNat (i + 1))), .val (.int (cv A (o + i)))] [])) := by
        have := c9
        rw [succ32, succ32, succ32] at this
        exact this
      exact ih (i + 1) (by omega) _ (Or.inr ⟨_, rfl, rfl⟩) T7 _ (by rw [copyLocs_step, ← List.append_assoc]; exact X7) (pl.trans p7) (fl.step (by omega) hlt (by simp)) c10
  obtain ⟨T9, B9, z9, X9, p9, f9, g9⟩ := loop len 0 (by omega) .unset (Or.inl rfl) s₁ B (by simpa [copyLocs] using X0) ⟨hB0.1, fun _ _ => rfl, rfl⟩ (Laid.zero _ _ _) c2
  have c11 : Steps p.tables e below (s₁.setTop (entryFrame m #[.ref b, .int (Int32.ofNat o), .ref d, .int (Int32.ofNat q), .int (Int32.ofNat len)] 7)) (T9.setTop (mkF m 46 #[.val (.ref b), .val (.int (Int32.ofNat (o + len))), .val (.ref d), .val (.int (Int32.ofNat (q + len))), .val (.int (Int32.ofNat len)), .val (.int (Int32.ofNat len)), z9] [.int (Int32.ofNat len)])) := g9.trans (by
    refine XS.iload X9.here hexec rfl (hb hbytes d3) rfl ?_
    refine XS.iload X9.here hexec rfl (hb hbytes d5) rfl ?_
    refine XS.icmpYes X9.here hexec rfl (pc0 := 7) rfl (hb hbytes d7) rfl (ii_ge_t (nlt32 (by omega) (Nat.le_refl _))) (by decide) rfl ?_
    refine XS.iload X9.here hexec rfl (hb hbytes d44) rfl ?_
    exact Steps.refl _)
  exact ⟨T9, some (.int (Int32.ofNat len)), _, _, _, X9, by simp, rfl, rfl, (fun h => by cases h), ⟨rfl, B9, p9.from hh0, f9⟩, fun fs hl => c11.trans (X9.ireturnOut hexec hret rfl (Or.inl rfl) (hb hbytes d46) hl)⟩
end Cmp5
namespace Cmp3
def yN : MethodName := ⟨"java/lang/StringUTF16", "compress", "([CII)[B"⟩
abbrev yB : ByteArray := jdk_52_method_16_code
theorem d0 : decode yB 0 = .ok (.iload_n 2, 1) := by decide +kernel
theorem d1 : decode yB 1 = .ok (.newarray .byte, 2) := by decide +kernel
theorem d3 : decode yB 3 = .ok (.astore_n 3, 1) := by decide +kernel
theorem d4 : decode yB 4 = .ok (.aload_n 0, 1) := by decide +kernel
theorem d5 : decode yB 5 = .ok (.iload_n 1, 1) := by decide +kernel
theorem d6 : decode yB 6 = .ok (.aload_n 3, 1) := by decide +kernel
theorem d7 : decode yB 7 = .ok (.iconst 0, 1) := by decide +kernel
theorem d8 : decode yB 8 = .ok (.iload_n 2, 1) := by decide +kernel
theorem d9 : decode yB 9 = .ok (.invokestatic 115, 3) := by decide +kernel
theorem d12 : decode yB 12 = .ok (.istore 4, 2) := by decide +kernel
theorem d14 : decode yB 14 = .ok (.iload 4, 2) := by decide +kernel
theorem d16 : decode yB 16 = .ok (.iload_n 2, 1) := by decide +kernel
theorem d17 : decode yB 17 = .ok (.if_icmp (.eq) 40, 3) := by decide +kernel
theorem d57 : decode yB 57 = .ok (.aload_n 3, 1) := by decide +kernel
theorem d58 : decode yB 58 = .ok (.areturn, 1) := by decide +kernel
def site : List Cond := [.arrayClass .byte, Cmp5.tab] ++ staticW U16 115 Cmp5.yN
def tab : Cond := tabOf yN yB 6 (some (.array .byte)) site
def P (b : Addr) (A : Cell) (o len : Nat) (args : Array Value) (s : State) : Prop := args = #[.ref b, .int (Int32.ofNat o), .int (Int32.ofNat len)] ∧ Ch b A s ∧ o + len ≤ A.slots.size ∧ len ≤ 536870912 ∧ ∀ i, i < len → ¬ 255 < cv A (o + i)
def E (b : Addr) (A : Cell) (o len : Nat) (r : Option Value) (s u : State) : Prop := NewArr .byte "[B" len (fun j => .int (lo8 (cv A (o + j)))) r s u ∧ u.heap.size = s.heap.size + 1
/-- no char of the range above 255: a new byte[] of their low bytes -/
theorem law (l : Launch) (b : Addr) (A : Cell) (o len : Nat) : Law l yN 3 3 1 18 yB 6 (some (.array .byte)) site (P b A o len) (E b A o len) [] 1 len := by
  refine Law.of_walk (plainFor_of_name (by decide +kernel)) (by decide +kernel) (by decide +kernel) (by decide) (fun _ _ h => by rw [h.1]; rfl) (fun _ U U' hal hh h => ⟨h.1, h.2.1.mv hal hh, h.2.2⟩) (fun r U U' V V' h1 hal h2 h => ⟨NewArr.mv r U U' V V' h1 hal h2 h.1, by rw [h1, h2]; exact h.2⟩) ?_
  intro p e s m args below meth c s₁ X0 hexec hbytes hml hret hlk hnm hown hh0 W hP
  obtain ⟨rfl, hA, l1, l2, hp⟩ := hP
  have a31 := hA.1.2.2.2
  have c1 : Steps p.tables e below (s₁.setTop (entryFrame m #[.ref b, .int (Int32.ofNat o), .int (Int32.ofNat len)] 6)) (s₁.setTop (mkF m 0 #[.val (.ref b), .val (.int (Int32.ofNat o)), .val (.int (Int32.ofNat len)), .unset, .unset, .unset] [])) := entry rfl
  have c2 : Steps p.tables e below (s₁.setTop (entryFrame m #[.ref b, .int (Int32.ofNat o), .int (Int32.ofNat len)] 6)) (s₁.setTop (mkF m 1 #[.val (.ref b), .val (.int (Int32.ofNat o)), .val (.int (Int32.ofNat len)), .unset, .unset, .unset] [.int (Int32.ofNat len)])) := c1.trans (by
    refine XS.iloadN X0.here hexec rfl (hb hbytes d0) rfl ?_
    exact Steps.refl _)
  obtain ⟨T3, B3, X3, ba3, bs3, bv3, bh3, bf3, st3⟩ := X0.anew hexec (atype := .byte) (wk W (.arrayClass .byte)) rfl (by show len * 1 ≤ _; omega) (by omega) (g := (mkF m 1 #[.val (.ref b), .val (.int (Int32.ofNat o)), .val (.int (Int32.ofNat len)), .unset, .unset, .unset] [.int (Int32.ofNat len)])) rfl (hb hbytes d1) (rest := []) rfl (Nat.le_refl _) (by show 0 + len ≤ len; omega)
  rw [hh0] at ba3 st3
  have kp3 : XT.Kept s T3 := (XT.Kept.of_eq hh0).push bh3
  have hA3 := hA.keep X3.warmed.alike (kp3 _ _ hA.1.1)
  have hne : b ≠ s.heap.size := hA.1.ne
  have c4 : Steps p.tables e below (s₁.setTop (entryFrame m #[.ref b, .int (Int32.ofNat o), .int (Int32.ofNat len)] 6)) (T3.setTop (mkF m 3 #[.val (.ref b), .val (.int (Int32.ofNat o)), .val (.int (Int32.ofNat len)), .unset, .unset, .unset] [.ref s.heap.size])) := c2.trans (st3 _ (Steps.refl _))
  have c5 : Steps p.tables e below (s₁.setTop (entryFrame m #[.ref b, .int (Int32.ofNat o), .int (Int32.ofNat len)] 6)) (T3.setTop (mkF m 9 #[.val (.ref b), .val (.int (Int32.ofNat o)), .val (.int (Int32.ofNat len)), .val (.ref s.heap.size), .unset, .unset] [.int (Int32.ofNat len), .int 0, .ref s.heap.size, .int (Int32.ofNat o), .ref b])) := c4.trans (by
    refine XS.astoreN X3.here hexec rfl (hb hbytes d3) rfl rfl rfl ?_
    refine XS.aloadN X3.here hexec rfl (hb hbytes d4) rfl rfl ?_
    refine XS.iloadN X3.here hexec rfl (hb hbytes d5) rfl ?_
    refine XS.aloadN X3.here hexec rfl (hb hbytes d6) rfl rfl ?_
    refine iconstV X3.here hexec rfl 0 (hb hbytes d7) (by decide) ?_
    refine XS.iloadN X3.here hexec rfl (hb hbytes d8) rfl ?_
    exact Steps.refl _)
  obtain ⟨v6, T6, X6, E6, g6⟩ := X3.callS hexec (Cmp5.law l b A s.heap.size B3 o 0 len) hown (wks W (staticW U16 115 Cmp5.yN)) (wk W Cmp5.tab) (W := 0) (Nat.le_of_ble_eq_true rfl) (Nat.le_of_ble_eq_true rfl) (Nat.le_refl _) (by show 0 + len + 0 ≤ len; omega) (g := (mkF m 9 #[.val (.ref b), .val (.int (Int32.ofNat o)), .val (.int (Int32.ofNat len)), .val (.ref s.heap.size), .unset, .unset] [.int (Int32.ofNat len), .int (Int32.ofNat 0), .ref s.heap.size, .int (Int32.ofNat o), .ref b])) rfl (by rw [hml]; rfl) c5 (argsL := [.ref b, .int (Int32.ofNat o), .ref s.heap.size, .int (Int32.ofNat 0), .int (Int32.ofNat len)]) (rest := []) rfl rfl (by show 2 * 0 + 0 ≤ _; decide) (hb hbytes d9) (⟨rfl, hA3, ba3, hne, l1, by rw [bs3]; simp, hp⟩)
  obtain ⟨rfl, B6, p6, f6⟩ := E6
  have c7 : Steps p.tables e below (s₁.setTop (entryFrame m #[.ref b, .int (Int32.ofNat o), .int (Int32.ofNat len)] 6)) (T6.setTop (mkF m 12 #[.val (.ref b), .val (.int (Int32.ofNat o)), .val (.int (Int32.ofNat len)), .val (.ref s.heap.size), .unset, .unset] [.int (Int32.ofNat len)])) := g6
  have c8 : Steps p.tables e below (s₁.setTop (entryFrame m #[.ref b, .int (Int32.ofNat o), .int (Int32.ofNat len)] 6)) (T6.setTop (mkF m 58 #[.val (.ref b), .val (.int (Int32.ofNat o)), .val (.int (Int32.ofNat len)), .val (.ref s.heap.size), .val (.int (Int32.ofNat len)), .unset] [.ref s.heap.size])) := c7.trans (by
    refine XS.istore X6.here hexec rfl (hb hbytes d12) rfl rfl ?_
    refine XS.iload X6.here hexec rfl (hb hbytes d14) rfl ?_
    refine XS.iloadN X6.here hexec rfl (hb hbytes d16) rfl ?_
    refine XS.icmpYes X6.here hexec rfl (pc0 := 17) rfl (hb hbytes d17) rfl (ii_eq_t rfl) (by decide) rfl ?_
    refine XS.aloadN X6.here hexec rfl (hb hbytes d57) rfl rfl ?_
    exact Steps.refl _)
  have X8 := X6.wide (L' := []) (cells' := 1) (slots' := len) (fun x hx hlt => by
    simp only [List.nil_append, copyLocs, List.mem_map, List.mem_range] at hx
    obtain ⟨i, -, rfl⟩ := hx
    exact absurd hlt (Nat.lt_irrefl _)) (Nat.le_refl _) (by omega)
  exact ⟨T6, some (.ref s.heap.size), _, _, _, X8, rfl, rfl, rfl, (fun h => by cases h), ⟨⟨rfl, B6, ba3.like (X3.warmed.alike.symm.trans X6.warmed.alike) p6.1 f6.1 f6.2.1 f6.2.2.1, f6.2.1.trans bv3, by rw [X6.warmed.alike.findClass, f6.1]; exact bf3, by rw [f6.2.2.1, bs3]; simp, fun j hj => by rw [f6.2.2.2 j, if_pos (by omega)]; rfl, kp3.put p6 (Nat.le_refl _)⟩, by rw [p6.2.2, bh3, hh0]; simp⟩, fun fs hl => c8.trans (X8.areturnOut hexec rfl hret rfl (hb hbytes d58) hl)⟩
end Cmp3
namespace CodL
def yN : MethodName := ⟨"java/lang/StringUTF16", "coderFromArrayLen", "([BI)B"⟩
abbrev yB : ByteArray := jdk_52_method_15_code
theorem d0 : decode yB 0 = .ok (.iload_n 1, 1) := by decide +kernel
theorem d1 : decode yB 1 = .ok (.aload_n 0, 1) := by decide +kernel
theorem d2 : decode yB 2 = .ok (.arraylength, 1) := by decide +kernel
theorem d3 : decode yB 3 = .ok (.isub, 1) := by decide +kernel
theorem d4 : decode yB 4 = .ok (.bipush 31, 2) := by decide +kernel
theorem d6 : decode yB 6 = .ok (.iushr, 1) := by decide +kernel
theorem d7 : decode yB 7 = .ok (.i2b, 1) := by decide +kernel
theorem d8 : decode yB 8 = .ok (.ireturn, 1) := by decide +kernel
def site : List Cond := []
def tab : Cond := tabOf yN yB 2 (some .byte) site
def P (d : Addr) (B : Cell) (args : Array Value) (s : State) : Prop := args = #[.ref d, .int (Int32.ofNat B.slots.size)] ∧ Arr .byte d B s
def E (r : Option Value) (s u : State) : Prop := XT.PureE (some (.int 0)) r s u
/-- an array as long as the number of chars: LATIN1 -/
theorem law (l : Launch) (d : Addr) (B : Cell) : Law l yN 2 2 0 0 yB 2 (some .byte) site (P d B) E [] 0 0 := by
  refine Law.of_walk (plainFor_of_name (by decide +kernel)) (by decide +kernel) (by decide +kernel) (by decide) (fun _ _ h => by rw [h.1]; rfl) (fun _ U U' hal hh h => ⟨h.1, h.2.mv hal hh⟩) (fun r U U' V V' h1 hal h2 h => XT.PureE.mv r U U' V V' h1 hal h2 h) ?_
  intro p e s m args below meth c s₁ X0 hexec hbytes hml hret hlk hnm hown hh0 W hP
  obtain ⟨rfl, hB⟩ := hP
  have hB0 := hB.mv X0.warmed.alike hh0
  have c1 : Steps p.tables e below (s₁.setTop (entryFrame m #[.ref d, .int (Int32.ofNat B.slots.size)] 2)) (s₁.setTop (mkF m 0 #[.val (.ref d), .val (.int (Int32.ofNat B.slots.size))] [])) := entry rfl
  have c2 : Steps p.tables e below (s₁.setTop (entryFrame m #[.ref d, .int (Int32.ofNat B.slots.size)] 2)) (s₁.setTop (mkF m 2 #[.val (.ref d), .val (.int (Int32.ofNat B.slots.size))] [.ref d, .int (Int32.ofNat B.slots.size)])) := c1.trans (by
    refine XS.iloadN X0.here hexec rfl (hb hbytes d0) rfl ?_
    refine XS.aloadN X0.here hexec rfl (hb hbytes d1) rfl rfl ?_
    exact Steps.refl _)
  have c3 : Steps p.tables e below (s₁.setTop (entryFrame m #[.ref d, .int (Int32.ofNat B.slots.size)] 2)) (s₁.setTop (mkF m 8 #[.val (.ref d), .val (.int (Int32.ofNat B.slots.size))] [.int (lo8 (ushr (Int32.ofNat B.slots.size - Int32.ofNat B.slots.size) 31))])) := c2.trans (by
    refine X0.alen hexec hB0 rfl rfl (hb hbytes d2) ?_
    refine XS.isub X0.here hexec rfl (hb hbytes d3) rfl ?_
    refine bipushV X0.here hexec rfl 31 (hb hbytes d4) (by decide) ?_
    refine iushr X0.here hexec rfl (hb hbytes d6) rfl ?_
    refine i2b X0.here hexec rfl (hb hbytes d7) rfl ?_
    exact Steps.refl _)
  have e0 : lo8 (ushr (Int32.ofNat B.slots.size - Int32.ofNat B.slots.size) 31) = 0 := by rw [Int32.sub_self]; decide
  rw [e0] at c3
  exact ⟨s₁, some (.int 0), _, _, _, X0, rfl, rfl, rfl, (fun h => by cases h), ⟨rfl, hh0⟩, fun fs hl => c3.trans (X0.ireturnOut hexec hret rfl (Or.inr (Or.inr (Or.inl rfl))) (hb hbytes d8) hl)⟩
end CodL
/-- the String at a is Latin-1 over a new byte[] (the heap's one new cell): the low bytes of the len chars of A from o on; every cell but a is kept -/
def Got (a : Addr) (D : Cell) (fV fC : Field) (A : Cell) (o len : Nat) (r : Option Value) (s u : State) : Prop := r = none ∧ ∃ D' V : Cell, Blank "java/lang/String" a D' u ∧ Same D D' [fV.slot, fC.slot] ∧ D'.slots[fV.slot]? = some (.ref s.heap.size) ∧ D'.slots[fC.slot]? = some (.int 0) ∧ Arr .byte s.heap.size V u ∧ V.vm = .none ∧ u.vm.findClass "[B" = some V.cls ∧ V.slots.size = len ∧ (∀ j, j < len → V.slots[j]? = some (.int (lo8 (cv A (o + j))))) ∧ (∀ (y : Addr) (c : Cell), y ≠ a → s.heap[y]? = some c → u.heap[y]? = some c) ∧ u.heap.size = s.heap.size + 1
theorem Got.mv {a : Addr} {D A : Cell} {fV fC : Field} {o len : Nat} : ∀ r (U U' V V' : State), U'.heap = U.heap → V.vm.Alike V'.vm → V'.heap = V.heap → Got a D fV fC A o len r U V → Got a D fV fC A o len r U' V' :=
  fun r U U' V V' h1 hal h2 ⟨e0, D', X, a1, a2, a3, a4, a5, a6, a7, a8, a9, a10, a11⟩ => ⟨e0, D', X, a1.mv hal h2, a2, by rw [h1]; exact a3, a4, by rw [h1]; exact a5.mv hal h2, a6, by rw [hal.findClass]; exact a7, a8, a9, by rw [h1, h2]; exact a10, by rw [h1, h2]; exact a11⟩
namespace New4
def yN : MethodName := ⟨"java/lang/String", "<init>", "([CIILjava/lang/Void;)V"⟩
abbrev yB : ByteArray := jdk_42_method_149_code
theorem d0 : decode yB 0 = .ok (.aload_n 0, 1) := by decide +kernel
theorem d1 : decode yB 1 = .ok (.invokespecial 1, 3) := by decide +kernel
theorem d4 : decode yB 4 = .ok (.iload_n 3, 1) := by decide +kernel
theorem d5 : decode yB 5 = .ok (.ifCond (.ne) 22, 3) := by decide +kernel
theorem d27 : decode yB 27 = .ok (.getstatic 38, 3) := by decide +kernel
theorem d30 : decode yB 30 = .ok (.ifCond (.eq) 28, 3) := by decide +kernel
theorem d33 : decode yB 33 = .ok (.aload_n 1, 1) := by decide +kernel
theorem d34 : decode yB 34 = .ok (.iload_n 2, 1) := by decide +kernel
theorem d35 : decode yB 35 = .ok (.iload_n 3, 1) := by decide +kernel
theorem d36 : decode yB 36 = .ok (.invokestatic 177, 3) := by decide +kernel
theorem d39 : decode yB 39 = .ok (.astore 5, 2) := by decide +kernel
theorem d41 : decode yB 41 = .ok (.aload_n 0, 1) := by decide +kernel
theorem d42 : decode yB 42 = .ok (.aload 5, 2) := by decide +kernel
theorem d44 : decode yB 44 = .ok (.iload_n 3, 1) := by decide +kernel
theorem d45 : decode yB 45 = .ok (.invokestatic 47, 3) := by decide +kernel
theorem d48 : decode yB 48 = .ok (.putfield 15, 3) := by decide +kernel
theorem d51 : decode yB 51 = .ok (.aload_n 0, 1) := by decide +kernel
theorem d52 : decode yB 52 = .ok (.aload 5, 2) := by decide +kernel
theorem d54 : decode yB 54 = .ok (.putfield 9, 3) := by decide +kernel
theorem d57 : decode yB 57 = .ok (.return_, 1) := by decide +kernel
def site : List Cond := [.fieldLink "java/lang/String" 38 "java/lang/String" "COMPACT_STRINGS" "Z", Cmp3.tab, CodL.tab, .laysFinal "java/lang/String" "java/lang/String" "value" "[B", .fieldLink "java/lang/String" 9 "java/lang/String" "value" "[B", .laysFinal "java/lang/String" "java/lang/String" "coder" "B", .fieldLink "java/lang/String" 15 "java/lang/String" "coder" "B"] ++ objW "java/lang/String" 1 ++ staticW "java/lang/String" 177 Cmp3.yN ++ staticW "java/lang/String" 47 CodL.yN
def tab : Cond := tabOf yN yB 6 none site
def P (a : Addr) (D : Cell) (fV fC : Field) (b : Addr) (A : Cell) (z : Int32) (o len : Nat) (args : Array Value) (s : State) : Prop := args = #[.ref a, .ref b, .int (Int32.ofNat o), .int (Int32.ofNat len), .null] ∧ Blank "java/lang/String" a D s ∧ Found "java/lang/String" "value" "[B" fV s ∧ Found "java/lang/String" "coder" "B" fC s ∧ Ch b A s ∧ StaticIs s "java/lang/String" "COMPACT_STRINGS" "Z" (.int z) ∧ ¬ z = 0 ∧ 0 < len ∧ o + len ≤ A.slots.size ∧ len ≤ 536870912 ∧ ∀ i, i < len → ¬ 255 < cv A (o + i)
def E (a : Addr) (D : Cell) (fV fC : Field) (A : Cell) (o len : Nat) (r : Option Value) (s u : State) : Prop := Got a D fV fC A o len r s u
/-- len > 0, no char of the range above 255: a Latin-1 String of their low bytes -/
theorem law (l : Launch) (a : Addr) (D : Cell) (fV fC : Field) (b : Addr) (A : Cell) (z : Int32) (o len : Nat) : Law l yN 5 4 2 35 yB 6 none site (P a D fV fC b A z o len) (E a D fV fC A o len) [⟨a, fC.slot⟩, ⟨a, fV.slot⟩] 1 len := by
  refine Law.of_walk (plainFor_of_name (by decide +kernel)) (by decide +kernel) (by decide +kernel) (by decide) (fun _ _ h => by rw [h.1]; rfl) (fun _ U U' hal hh h => ⟨h.1, h.2.1.mv hal hh, h.2.2.1.al hal, h.2.2.2.1.al hal, h.2.2.2.2.1.mv hal hh, h.2.2.2.2.2.1.there hal hh, h.2.2.2.2.2.2⟩) (fun r U U' V V' h1 hal h2 h => Got.mv r U U' V V' h1 hal h2 h) ?_
  intro p e s m args below meth c s₁ X0 hexec hbytes hml hret hlk hnm hown hh0 W hP
  obtain ⟨rfl, hB, f1, f2, hA, s1, hz, l0, l1, l2, hp⟩ := hP
  have a31 := hA.1.2.2.2
  have c1 : Steps p.tables e below (s₁.setTop (entryFrame m #[.ref a, .ref b, .int (Int32.ofNat o), .int (Int32.ofNat len), .null] 6)) (s₁.setTop (mkF m 0 #[.val (.ref a), .val (.ref b), .val (.int (Int32.ofNat o)), .val (.int (Int32.ofNat len)), .val .null, .unset] [])) := entry rfl
  have c2 : Steps p.tables e below (s₁.setTop (entryFrame m #[.ref a, .ref b, .int (Int32.ofNat o), .int (Int32.ofNat len), .null] 6)) (s₁.setTop (mkF m 1 #[.val (.ref a), .val (.ref b), .val (.int (Int32.ofNat o)), .val (.int (Int32.ofNat len)), .val .null, .unset] [.ref a])) := c1.trans (by
    refine XS.aloadN X0.here hexec rfl (hb hbytes d0) rfl rfl ?_
    exact Steps.refl _)
  obtain ⟨T3, X3, q3, st3⟩ := X0.oinit hexec hown (wks W (objW "java/lang/String" 1)) (g := (mkF m 1 #[.val (.ref a), .val (.ref b), .val (.int (Int32.ofNat o)), .val (.int (Int32.ofNat len)), .val .null, .unset] [.ref a])) rfl (by rw [hml]; rfl) (rest := []) rfl (hb hbytes d1) (W := 0) (by show 2 * 0 + 0 ≤ _; decide) (Nat.le_of_ble_eq_true rfl) (Nat.le_of_ble_eq_true rfl)
  have hh3 := q3.trans hh0
  have c4 : Steps p.tables e below (s₁.setTop (entryFrame m #[.ref a, .ref b, .int (Int32.ofNat o), .int (Int32.ofNat len), .null] 6)) (T3.setTop (mkF m 27 #[.val (.ref a), .val (.ref b), .val (.int (Int32.ofNat o)), .val (.int (Int32.ofNat len)), .val .null, .unset] [])) := (c2.trans (st3 _ (Steps.refl _))).trans (by
    refine XS.iloadN X3.here hexec rfl (hb hbytes d4) rfl ?_
    refine XS.ifYes X3.here hexec rfl (pc0 := 5) rfl (hb hbytes d5) rfl (i0_ne_t (nz32 (by omega) l0)) (by decide) rfl ?_
    exact Steps.refl _)
  obtain ⟨T5, X5, q5, st5⟩ := X3.sget hexec hown (wk W (.fieldLink "java/lang/String" 38 "java/lang/String" "COMPACT_STRINGS" "Z")) s1 (fun _ _ h => by rw [hh3]; exact h) (g := (mkF m 27 #[.val (.ref a), .val (.ref b), .val (.int (Int32.ofNat o)), .val (.int (Int32.ofNat len)), .val .null, .unset] [])) rfl (hb hbytes d27)
  have hh5 := q5.trans hh3
  have c6 : Steps p.tables e below (s₁.setTop (entryFrame m #[.ref a, .ref b, .int (Int32.ofNat o), .int (Int32.ofNat len), .null] 6)) (T5.setTop (mkF m 30 #[.val (.ref a), .val (.ref b), .val (.int (Int32.ofNat o)), .val (.int (Int32.ofNat len)), .val .null, .unset] [.int z])) := c4.trans (st5 _ (Steps.refl _))
  have c7 : Steps p.tables e below (s₁.setTop (entryFrame m #[.ref a, .ref b, .int (Int32.ofNat o), .int (Int32.ofNat len), .null] 6)) (T5.setTop (mkF m 36 #[.val (.ref a), .val (.ref b), .val (.int (Int32.ofNat o)), .val (.int (Int32.ofNat len)), .val .null, .unset] [.int (Int32.ofNat len), .int (Int32.ofNat o), .ref b])) := c6.trans (by
    refine XS.ifNo X5.here hexec rfl (hb hbytes d30) rfl (i0_eq_f hz) ?_
    refine XS.aloadN X5.here hexec rfl (hb hbytes d33) rfl rfl ?_
    refine XS.iloadN X5.here hexec rfl (hb hbytes d34) rfl ?_
    refine XS.iloadN X5.here hexec rfl (hb hbytes d35) rfl ?_
    exact Steps.refl _)
  obtain ⟨v8, T8, X8, E8, g8⟩ := X5.callS hexec (Cmp3.law l b A o len) hown (wks W (staticW "java/lang/String" 177 Cmp3.yN)) (wk W Cmp3.tab) (W := 0) (Nat.le_of_ble_eq_true rfl) (Nat.le_of_ble_eq_true rfl) (Nat.le_refl _) (by show 0 + len ≤ len; omega) (g := (mkF m 36 #[.val (.ref a), .val (.ref b), .val (.int (Int32.ofNat o)), .val (.int (Int32.ofNat len)), .val .null, .unset] [.int (Int32.ofNat len), .int (Int32.ofNat o), .ref b])) rfl (by rw [hml]; rfl) c7 (argsL := [.ref b, .int (Int32.ofNat o), .int (Int32.ofNat len)]) (rest := []) rfl rfl (by show 2 * 0 + 0 ≤ _; decide) (hb hbytes d36) (⟨rfl, hA.mv X5.warmed.alike hh5, l1, l2, hp⟩)
  obtain ⟨e8, z8⟩ := E8
  obtain ⟨rfl, N, n1, n2, n3, n4, n5, n6⟩ := NewArr.mv _ T5 s _ _ hh5.symm (Vm.Alike.refl _) rfl e8
  rw [hh5] at z8
  have hB1 := hB.keep X8.warmed.alike (n6 _ _ hB.1)
  have hne : s.heap.size ≠ a := (Nat.ne_of_lt (Array.getElem?_eq_some_iff.mp hB.1).1).symm
  have c9 : Steps p.tables e below (s₁.setTop (entryFrame m #[.ref a, .ref b, .int (Int32.ofNat o), .int (Int32.ofNat len), .null] 6)) (T8.setTop (mkF m 39 #[.val (.ref a), .val (.ref b), .val (.int (Int32.ofNat o)), .val (.int (Int32.ofNat len)), .val .null, .unset] [.ref s.heap.size])) := g8
  have c10 : Steps p.tables e below (s₁.setTop (entryFrame m #[.ref a, .ref b, .int (Int32.ofNat o), .int (Int32.ofNat len), .null] 6)) (T8.setTop (mkF m 45 #[.val (.ref a), .val (.ref b), .val (.int (Int32.ofNat o)), .val (.int (Int32.ofNat len)), .val .null, .val (.ref s.heap.size)] [.int (Int32.ofNat N.slots.size), .ref s.heap.size, .ref a])) := by
    have hc : Steps p.tables e below (s₁.setTop (entryFrame m #[.ref a, .ref b, .int (Int32.ofNat o), .int (Int32.ofNat len), .null] 6)) (T8.setTop (mkF m 45 #[.val (.ref a), .val (.ref b), .val (.int (Int32.ofNat o)), .val (.int (Int32.ofNat len)), .val .null, .val (.ref s.heap.size)] [.int (Int32.ofNat len), .ref s.heap.size, .ref a])) := c9.trans (by
      refine XS.astore X8.here hexec rfl (hb hbytes d39) rfl rfl rfl ?_
      refine XS.aloadN X8.here hexec rfl (hb hbytes d41) rfl rfl ?_
      refine XS.aload X8.here hexec rfl (hb hbytes d42) rfl rfl ?_
      refine XS.iloadN X8.here hexec rfl (hb hbytes d44) rfl ?_
      exact Steps.refl _)
    rw [n4]; exact hc
  obtain ⟨v11, T11, X11, E11, g11⟩ := X8.callS hexec (CodL.law l s.heap.size N) hown (wks W (staticW "java/lang/String" 47 CodL.yN)) (wk W CodL.tab) (W := 1) (Nat.le_of_ble_eq_true rfl) (Nat.le_of_ble_eq_true rfl) (Nat.le_refl _) (by show 0 + len + 0 ≤ len; omega) (g := (mkF m 45 #[.val (.ref a), .val (.ref b), .val (.int (Int32.ofNat o)), .val (.int (Int32.ofNat len)), .val .null, .val (.ref s.heap.size)] [.int (Int32.ofNat N.slots.size), .ref s.heap.size, .ref a])) rfl (by rw [hml]; rfl) c10 (argsL := [.ref s.heap.size, .int (Int32.ofNat N.slots.size)]) (rest := [.ref a]) rfl rfl (by show 2 * 0 + (1 + 0) ≤ _; decide) (hb hbytes d45) (⟨rfl, n1⟩)
  obtain ⟨rfl, q11⟩ := E11
  have hB11 := hB1.mv (X8.warmed.alike.symm.trans X11.warmed.alike) q11
  have c12 : Steps p.tables e below (s₁.setTop (entryFrame m #[.ref a, .ref b, .int (Int32.ofNat o), .int (Int32.ofNat len), .null] 6)) (T11.setTop (mkF m 48 #[.val (.ref a), .val (.ref b), .val (.int (Int32.ofNat o)), .val (.int (Int32.ofNat len)), .val .null, .val (.ref s.heap.size)] [.int 0, .ref a])) := g11
  obtain ⟨T13, X13, p13, bl13, sl13, st13⟩ := X11.finit hexec hown (wk W (.fieldLink "java/lang/String" 15 "java/lang/String" "coder" "B")) (Or.inr ⟨_, (wk W (.laysFinal "java/lang/String" "java/lang/String" "coder" "B"))⟩) (Or.inl ⟨rfl, hnm⟩) f2 (Or.inl rfl) hB11 (t := .byte) (by decide +kernel) rfl (g := (mkF m 48 #[.val (.ref a), .val (.ref b), .val (.int (Int32.ofNat o)), .val (.int (Int32.ofNat len)), .val .null, .val (.ref s.heap.size)] [.int 0, .ref a])) rfl (rest := []) rfl (hb hbytes d48)
  have c14 : Steps p.tables e below (s₁.setTop (entryFrame m #[.ref a, .ref b, .int (Int32.ofNat o), .int (Int32.ofNat len), .null] 6)) (T13.setTop (mkF m 54 #[.val (.ref a), .val (.ref b), .val (.int (Int32.ofNat o)), .val (.int (Int32.ofNat len)), .val .null, .val (.ref s.heap.size)] [.ref s.heap.size, .ref a])) := (c12.trans (st13 _ (Steps.refl _))).trans (by
    refine XS.aloadN X13.here hexec rfl (hb hbytes d51) rfl rfl ?_
    refine XS.aload X13.here hexec rfl (hb hbytes d52) rfl rfl ?_
    exact Steps.refl _)
  obtain ⟨T15, X15, p15, bl15, sl15, st15⟩ := X13.finit hexec hown (wk W (.fieldLink "java/lang/String" 9 "java/lang/String" "value" "[B")) (Or.inr ⟨_, (wk W (.laysFinal "java/lang/String" "java/lang/String" "value" "[B"))⟩) (Or.inl ⟨rfl, hnm⟩) f1 (Or.inl rfl) bl13 (t := (.array .byte)) (by decide +kernel) rfl (g := (mkF m 54 #[.val (.ref a), .val (.ref b), .val (.int (Int32.ofNat o)), .val (.int (Int32.ofNat len)), .val .null, .val (.ref s.heap.size)] [.ref s.heap.size, .ref a])) rfl (rest := []) rfl (hb hbytes d54)
  have c16 : Steps p.tables e below (s₁.setTop (entryFrame m #[.ref a, .ref b, .int (Int32.ofNat o), .int (Int32.ofNat len), .null] 6)) (T15.setTop (mkF m 57 #[.val (.ref a), .val (.ref b), .val (.int (Int32.ofNat o)), .val (.int (Int32.ofNat len)), .val .null, .val (.ref s.heap.size)] [])) := c14.trans (st15 _ (Steps.refl _))
  have ap := apart (Or.inr ⟨_, (wk W (.laysFinal "java/lang/String" "java/lang/String" "value" "[B"))⟩) (Or.inr ⟨_, (wk W (.laysFinal "java/lang/String" "java/lang/String" "coder" "B"))⟩) f1 f2 (t₁ := .array .byte) (t₂ := .byte) (by decide +kernel) (by decide +kernel) (by decide)
  have al := X8.warmed.alike.symm.trans X15.warmed.alike
  have n7 : T11.heap[s.heap.size]? = some N := by rw [q11]; exact n1.1
  exact ⟨T15, none, _, _, _, X15, by simp, rfl, by omega, (fun _ => rfl), ⟨rfl, _, N, bl15, ((Same.refl D _).set _ (by simp)).set _ (by simp), sl15, (Cell.slots_setSlot_ne _ ap).trans sl13, n1.keep al (p15.other hne (p13.other hne n7)), n2, by rw [al.findClass]; exact n3, n4, n5, fun y c h1 h2 => p15.other h1 (p13.other h1 (by rw [q11]; exact n6 y c h2)), by rw [p15.2.2, p13.2.2, q11]; exact z8⟩, fun fs hl => c16.trans (X15.returnOut hexec hret (hb hbytes d57) hl)⟩
end New4
namespace New1
def yN : MethodName := ⟨"java/lang/String", "<init>", "([C)V"⟩
abbrev yB : ByteArray := jdk_42_method_3_code
theorem d0 : decode yB 0 = .ok (.aload_n 0, 1) := by decide +kernel
theorem d1 : decode yB 1 = .ok (.aload_n 1, 1) := by decide +kernel
theorem d2 : decode yB 2 = .ok (.iconst 0, 1) := by decide +kernel
theorem d3 : decode yB 3 = .ok (.aload_n 1, 1) := by decide +kernel
theorem d4 : decode yB 4 = .ok (.arraylength, 1) := by decide +kernel
theorem d5 : decode yB 5 = .ok (.aconst_null, 1) := by decide +kernel
theorem d6 : decode yB 6 = .ok (.invokespecial 27, 3) := by decide +kernel
theorem d9 : decode yB 9 = .ok (.return_, 1) := by decide +kernel
def site : List Cond := [New4.tab] ++ initW "java/lang/String" 27 New4.yN
def tab : Cond := tabOf yN yB 2 none site
def P (a : Addr) (D : Cell) (fV fC : Field) (b : Addr) (A : Cell) (z : Int32) (args : Array Value) (s : State) : Prop := args = #[.ref a, .ref b] ∧ Blank "java/lang/String" a D s ∧ Found "java/lang/String" "value" "[B" fV s ∧ Found "java/lang/String" "coder" "B" fC s ∧ Ch b A s ∧ StaticIs s "java/lang/String" "COMPACT_STRINGS" "Z" (.int z) ∧ ¬ z = 0 ∧ 0 < A.slots.size ∧ A.slots.size ≤ 536870912 ∧ ∀ i, i < A.slots.size → ¬ 255 < cv A i
def E (a : Addr) (D : Cell) (fV fC : Field) (A : Cell) (r : Option Value) (s u : State) : Prop := Got a D fV fC A 0 A.slots.size r s u
/-- new String(chars), not empty, no char above 255: a Latin-1 String of their low bytes -/
theorem law (l : Launch) (a : Addr) (D : Cell) (fV fC : Field) (b : Addr) (A : Cell) (z : Int32) : Law l yN 2 1 3 52 yB 2 none site (P a D fV fC b A z) (E a D fV fC A) [⟨a, fC.slot⟩, ⟨a, fV.slot⟩] 1 A.slots.size := by
  refine Law.of_walk (plainFor_of_name (by decide +kernel)) (by decide +kernel) (by decide +kernel) (by decide) (fun _ _ h => by rw [h.1]; rfl) (fun _ U U' hal hh h => ⟨h.1, h.2.1.mv hal hh, h.2.2.1.al hal, h.2.2.2.1.al hal, h.2.2.2.2.1.mv hal hh, h.2.2.2.2.2.1.there hal hh, h.2.2.2.2.2.2⟩) (fun r U U' V V' h1 hal h2 h => Got.mv r U U' V V' h1 hal h2 h) ?_
  intro p e s m args below meth c s₁ X0 hexec hbytes hml hret hlk hnm hown hh0 W hP
  obtain ⟨rfl, hB, f1, f2, hA, s1, hz, l0, l2, hp⟩ := hP
  have c1 : Steps p.tables e below (s₁.setTop (entryFrame m #[.ref a, .ref b] 2)) (s₁.setTop (mkF m 0 #[.val (.ref a), .val (.ref b)] [])) := entry rfl
  have c2 : Steps p.tables e below (s₁.setTop (entryFrame m #[.ref a, .ref b] 2)) (s₁.setTop (mkF m 6 #[.val (.ref a), .val (.ref b)] [.null, .int (Int32.ofNat A.slots.size), .int 0, .ref b, .ref a])) := c1.trans (by
    refine XS.aloadN X0.here hexec rfl (hb hbytes d0) rfl rfl ?_
    refine XS.aloadN X0.here hexec rfl (hb hbytes d1) rfl rfl ?_
    refine iconstV X0.here hexec rfl 0 (hb hbytes d2) (by decide) ?_
    refine XS.aloadN X0.here hexec rfl (hb hbytes d3) rfl rfl ?_
    refine X0.alen hexec (hA.1.mv X0.warmed.alike hh0) rfl rfl (hb hbytes d4) ?_
    refine XS.aconstNull X0.here hexec rfl (hb hbytes d5) ?_
    exact Steps.refl _)
  obtain ⟨v3, T3, X3, E3, g3⟩ := X0.callN hexec (New4.law l a D fV fC b A z 0 A.slots.size) rfl hown (wks W (initW "java/lang/String" 27 New4.yN)) (W New4.tab (by simp only [site, List.mem_cons, List.mem_append, true_or, or_true])) (W := 0) (Nat.le_of_ble_eq_true rfl) (Nat.le_of_ble_eq_true rfl) (Nat.le_refl _) (by show 0 + A.slots.size ≤ A.slots.size; omega) (g := (mkF m 6 #[.val (.ref a), .val (.ref b)] [.null, .int (Int32.ofNat A.slots.size), .int (Int32.ofNat 0), .ref b, .ref a])) rfl (by rw [hml]; rfl) c2 (argsL := [.ref b, .int (Int32.ofNat 0), .int (Int32.ofNat A.slots.size), .null]) (rest := []) rfl rfl (by show 2 * 0 + 0 ≤ _; decide) (hb hbytes d6) (⟨rfl, hB.mv X0.warmed.alike hh0, f1.al X0.warmed.alike, f2.al X0.warmed.alike, hA.mv X0.warmed.alike hh0, s1.there X0.warmed.alike hh0, hz, l0, by omega, l2, fun i hi => by rw [Nat.zero_add]; exact hp i hi⟩)
  have e0 := Got.mv _ s₁ s _ _ hh0.symm (Vm.Alike.refl _) rfl E3
  obtain rfl := e0.1
  have c4 : Steps p.tables e below (s₁.setTop (entryFrame m #[.ref a, .ref b] 2)) (T3.setTop (mkF m 9 #[.val (.ref a), .val (.ref b)] [])) := g3
  exact ⟨T3, none, _, _, _, X3, by simp, rfl, by omega, (fun _ => rfl), e0, fun fs hl => c4.trans (X3.returnOut hexec hret (hb hbytes d9) hl)⟩
theorem pays {l : Launch} {R : Room} {p : Program} {e : Env} {below : List Frame} {s : State} {sargs : Array Value} {len W : Nat} (a : Addr) (D : Cell) (fV fC : Field) (b : Addr) (A : Cell) (z : Int32) (htab : tab.before sargs s = true) (hfr : 4 ≤ R.frames) (hlo : W + 65 ≤ R.locals) :
    Back l R p e below s sargs yN len W (fun A₁ a₁ => A₁.cells + 1 ≤ R.cells ∧ A₁.slots + A.slots.size ≤ R.slots ∧ P a D fV fC b A z a₁ A₁.U) (fun A₁ _ v₁ B₁ => E a D fV fC A v₁ A₁.U B₁.U ∧ B₁.locs = A₁.locs ++ [⟨a, fC.slot⟩, ⟨a, fV.slot⟩] ∧ B₁.cells = A₁.cells + 1 ∧ B₁.slots = A₁.slots + A.slots.size) :=
  (law l a D fV fC b A z).pays htab hfr (by omega)
end New1
/-- the byte, read back as charAt reads it, is the char -/
theorem lo8_mask {x : Int32} (h0 : ¬ x < 0) (h1 : ¬ 255 < x) : lo8 x &&& 255 = x := by
  have t : ∀ k : Fin 256, lo8 (Int32.ofNat k.val) &&& 255 = Int32.ofNat k.val := by decide +kernel
  rw [Int32.lt_iff_toInt_lt] at h0 h1
  have e0 : (0 : Int32).toInt = 0 := rfl
  have e1 : (255 : Int32).toInt = 255 := rfl
  obtain ⟨k, hk⟩ : ∃ k : Nat, x.toInt = k := ⟨x.toInt.toNat, by omega⟩
  have hx : x = Int32.ofNat k := Int32.toInt_inj.mp (by rw [hk, Int32.toInt_ofNat_small (by omega)])
  rw [hx]
  exact t ⟨k, by omega⟩
end StrChars
namespace StrChars.Road
open Jvm Sem ClassFile Op Lib Jvm.Stand Jvm.Free Jvm.Free.XT
open Jvm.Lib.Cold (StaticIs)
abbrev ST : String := "java/lang/String"
/-- every table word that New1's law asks, flat -/
abbrev words : List Jvm.Cond := [.code New1.yN New1.yB 2 none, .initialized ST, .methodLink ST 27 New4.yN, .instanceMethod New4.yN,
  .code New4.yN New4.yB 6 none, .fieldLink ST 38 ST "COMPACT_STRINGS" "Z", .laysFinal ST ST "value" "[B", .fieldLink ST 9 ST "value" "[B", .laysFinal ST ST "coder" "B", .fieldLink ST 15 ST "coder" "B",
  .methodLink ST 1 Lib.objectInit, .instanceMethod Lib.objectInit, .code Lib.objectInit ⟨#[0xb1]⟩ 1 none, .methodLink ST 177 Cmp3.yN, .static Cmp3.yN, .methodLink ST 47 CodL.yN, .static CodL.yN,
  .code Cmp3.yN Cmp3.yB 6 (some (.array .byte)), .initialized U16, .arrayClass .byte, .methodLink U16 115 Cmp5.yN, .static Cmp5.yN, .code Cmp5.yN Cmp5.yB 7 (some .int), .code CodL.yN CodL.yB 2 (some .byte)]
theorem tab_of {a : Array Value} {s : State} (h : ∀ w ∈ words, w.before a s = true) : New1.tab.before a s = true := by
  have h5 : Cmp5.tab.before a s = true := unparts (wk h (.code Cmp5.yN Cmp5.yB 7 (some .int))) (wks h (.initialized Cmp5.yN.cls :: Cmp5.site))
  have hc : CodL.tab.before a s = true := unparts (wk h (.code CodL.yN CodL.yB 2 (some .byte))) (wks h (.initialized CodL.yN.cls :: CodL.site))
  have q5 : ∀ w ∈ Cmp5.tab :: words, w.before a s = true := fun w hw => (List.mem_cons.mp hw).elim (fun e => e ▸ h5) (h w)
  have h3 : Cmp3.tab.before a s = true := unparts (wk q5 (.code Cmp3.yN Cmp3.yB 6 (some (.array .byte)))) (wks q5 (.initialized Cmp3.yN.cls :: Cmp3.site))
  have q3 : ∀ w ∈ Cmp3.tab :: CodL.tab :: words, w.before a s = true := fun w hw => (List.mem_cons.mp hw).elim (fun e => e ▸ h3) fun hw => (List.mem_cons.mp hw).elim (fun e => e ▸ hc) (h w)
  have h4 : New4.tab.before a s = true := unparts (wk q3 (.code New4.yN New4.yB 6 none)) (wks q3 (.initialized New4.yN.cls :: New4.site))
  have q4 : ∀ w ∈ New4.tab :: words, w.before a s = true := fun w hw => (List.mem_cons.mp hw).elim (fun e => e ▸ h4) (h w)
  exact unparts (wk q4 (.code New1.yN New1.yB 2 none)) (wks q4 (.initialized New1.yN.cls :: New1.site))
/-- the words ride from the start Z to the walk's own state -/
theorem moved {Z s : State} {a0 args : Array Value} (hZ : Z.Warmed39 s.vm) (hw : ∀ d ∈ words, d.before a0 Z = true) : ∀ d ∈ words, d.before args s = true := fun d hd => by
  have q := hw d hd
  have t : ∀ d ∈ words, d = .arrayClass .byte ∨ (d.onTables && d.keepsFace) = true := by decide +kernel
  rcases t d hd with rfl | t
  · exact RoadKit.mvA hZ q
  · exact RoadKit.mv hZ q t
/-- WHAT COMES BACK, over the tables of the start Z: h the heap at the call, h' behind it -/
def Q (Z : State) (x : Addr) (A : Cell) (h : Heap) (v : Option Value) (h' : Heap) (L : List Loc) : Prop := v = none ∧ (∀ y ∈ L, y.base = x) ∧ RoadKit.Keep h h' [x] ∧ h'.size = h.size + 1 ∧ RoadKit.Exa Z h' x ST ∧ RoadKit.Fld Z h' x ST "value" "[B" (.ref h.size) ∧ RoadKit.Fld Z h' x ST "coder" "B" (.int 0) ∧
  (∃ V : Cell, RoadKit.Arr Z h' h.size V .byte ∧ V.vm = .none ∧ Z.vm.findClass "[B" = some V.cls ∧ V.slots.size = A.slots.size ∧ ∀ j, j < A.slots.size → V.slots[j]? = some (.int (lo8 (cv A j)))) ∧
  ∀ (O n d : String) (w : Value), RoadKit.Fld Z h x O n d w → RoadKit.slotOf Z O n d ≠ RoadKit.slotOf Z ST "value" "[B" → RoadKit.slotOf Z O n d ≠ RoadKit.slotOf Z ST "coder" "B" → RoadKit.Fld Z h' x O n d w
/-- **new String(chars) AT A CALL, IN THE ROAD'S FORM**: for specialBack behind newO: x the fresh String, b the char[] with the cell A -/
theorem back {p : Program} {l : Launch} {e : Env} {R : Room} {s : State} {args : Array Value} {below : List Frame} {len W : Nat} {Z : State} {a0 : Array Value} {h : Heap} (hZ : Z.Warmed39 s.vm) (hw : ∀ d ∈ words, d.before a0 Z = true) {kI : Nat} (wi : (Jvm.Cond.instantiable ST kI).before a0 Z = true)
    {x b : Addr} {A : Cell} {z : Int32} {v0 c0 : Value} (E : RoadKit.Exa Z h x ST) (V : RoadKit.Fld Z h x ST "value" "[B" v0) (C : RoadKit.Fld Z h x ST "coder" "B" c0) (K : RoadKit.Arr Z h b A .char) (hty : Typed .char A) (S : RoadKit.Sta Z h ST "COMPACT_STRINGS" "Z" (.int z)) (hz : ¬ z = 0)
    (l0 : 0 < A.slots.size) (l2 : A.slots.size ≤ 536870912) (hp : ∀ i, i < A.slots.size → ¬ 255 < cv A i) (hfr : 4 ≤ R.frames) (hlo : W + 65 ≤ R.locals) :
    Back l R p e below s args New1.yN len W (fun P a => a = #[.ref x, .ref b] ∧ P.U.heap = h ∧ P.cells + 1 ≤ R.cells ∧ P.slots + A.slots.size ≤ R.slots)
      (fun P _ v B => ∃ L, Q Z x A h v B.U.heap L ∧ B.locs = P.locs ++ L ∧ B.cells = P.cells + 1 ∧ B.slots = P.slots + A.slots.size) := by
  intro m meth c P g ig mk a X hg hsize hdg hW hn hp'
  obtain ⟨rfl, rfl, r1, r2⟩ := hp'
  have al : Z.vm.Alike P.U.vm := hZ.alike.trans X.warmed.alike
  obtain ⟨D, cfV, kV, iV, fV, hD, gV, stV, knV, obV, asV, slV⟩ := id V
  obtain ⟨D', cfC, kC, iC, fC, hD', gC, stC, -, -, asC, slC⟩ := id C
  cases hD.symm.trans hD'
  obtain ⟨D2, kD, e1, e2, e3, e4, e5⟩ := id E
  cases hD.symm.trans e1
  obtain ⟨c2, k2, i1, i2, i3, -⟩ := Cond.instantiable_spec wi
  cases e2.symm.trans i1
  cases e3.symm.trans i2
  obtain ⟨kU, u1, u2⟩ := al.2.2 _ _ e3
  have hB : Blank ST x D P.U := ⟨hD, ⟨knV, fun q hq => by rw [hq] at obV; cases obV⟩, by rw [al.findClass]; exact e2, kU, u1, by rw [u2]; exact i3, by rw [u2]; exact e5 i3⟩
  have F1 : Found ST "value" "[B" fV P.U := ⟨SBG.found_only al ⟨cfV, kV, iV, gV⟩, stV⟩
  have F2 : Found ST "coder" "B" fC P.U := ⟨SBG.found_only al ⟨cfC, kC, iC, gC⟩, stC⟩
  have hA : Ch b A P.U := ⟨⟨K.1, State.isArrayOf_alike al K.2.1, K.2.2, by omega⟩, hty⟩
  have hS : StaticIs P.U ST "COMPACT_STRINGS" "Z" (.int z) := by
    obtain ⟨cfS, iS, kS, fS, st, cS, t1, t2, t3, t4, t5, t6, t7⟩ := S
    exact StaticIs.there (s := { Z with heap := P.U.heap }) ⟨cfS, iS, kS, fS, st, cS, t1, t2, t3, t4, t5, (fun q => by rw [q] at t6; cases t6), t7⟩ al rfl
  obtain ⟨v, B, X', ⟨⟨hv, E', V', q1, q2, q3, q4, q5, q6, q7, q8, q9, q10, q11⟩, hl, hc, hs⟩, st⟩ := New1.pays x D fV fC b A z (tab_of (moved hZ hw)) hfr hlo m meth c P g ig mk _ X hg hsize hdg hW hn ⟨r1, r2, rfl, hB, F1, F2, hA, hS, hz, l0, l2, hp⟩
  have al' : Z.vm.Alike B.U.vm := hZ.alike.trans X'.warmed.alike
  have hsz : E'.slots.size = D.slots.size := by
    obtain ⟨-, -, -, kB, w1, w2, w3⟩ := q1
    obtain ⟨kB', y1, y2⟩ := al'.2.2 _ _ e3
    rw [q2.2.1] at w1
    cases w1.symm.trans y1
    rw [w3, e5 i3, y2]
  refine ⟨v, B, X', ⟨_, ⟨hv, ?_, ⟨by omega, fun y cy hy hn' => q10 y cy (by simpa using hn') hy, fun y cy hy => ?_⟩, q11, ⟨E', _, q1.1, by rw [q2.2.1]; exact e2, by rw [q2.2.1]; exact e3, by rw [q2.1]; exact obV, fun _ => by rw [hsz]; exact e5 i3⟩,
    ⟨E', cfV, kV, iV, fV, q1.1, gV, stV, by rw [q2.1]; exact knV, by rw [q2.1]; exact obV, by rw [q2.2.1]; exact asV, q3⟩, ⟨E', cfC, kC, iC, fC, q1.1, gC, stC, by rw [q2.1]; exact knV, by rw [q2.1]; exact obV, by rw [q2.2.1]; exact asC, q4⟩,
    ⟨V', ⟨q5.1, State.isArrayOf_alike al'.symm q5.2.1, q5.2.2.1⟩, q6, by rw [← al'.findClass]; exact q7, q8, fun j hj => by have := q9 j hj; rwa [Nat.zero_add] at this⟩, fun O n d w F n1 n2 => ?_⟩, hl, hc, hs⟩, st⟩
  · intro y hy
    simp only [List.mem_cons, List.not_mem_nil, or_false] at hy
    rcases hy with rfl | rfl <;> rfl
  · by_cases q : y = x
    · subst q
      cases hD.symm.trans hy
      exact ⟨E', q1.1, q2.2.1, q2.1, hsz⟩
    · exact ⟨cy, q10 y cy q hy, rfl, rfl, rfl⟩
  · obtain ⟨D3, cf, k, i, f, g1, g2, g3, g4, g5, g6, g7⟩ := F
    cases hD.symm.trans g1
    simp only [RoadKit.slotOf, g2, gV, gC, Option.map_some, Option.getD_some] at n1 n2
    exact ⟨E', cf, k, i, f, q1.1, g2, g3, by rw [q2.1]; exact g4, by rw [q2.1]; exact g5, by rw [q2.2.1]; exact g6, by rw [q2.2.2 f.slot (by simp [n1, n2])]; exact g7⟩
end StrChars.Road
namespace StrChars.Road
open Jvm Sem ClassFile Op Lib Jvm.Stand Jvm.Free Jvm.Free.XT
/-- WHAT COMES BACK, the byte[] as a list of values -/
def QA (Z : State) (x : Addr) (zn : Int32) (cs : List Int32) (h : Heap) (v : Option Value) (h' : Heap) (L : List Loc) : Prop := v = none ∧ (∀ y ∈ L, y.base = x) ∧ RoadKit.Keep h h' [x] ∧ h'.size = h.size + 1 ∧ RoadKit.Exa Z h' x ST ∧ RoadKit.Fld Z h' x ST "value" "[B" (.ref h.size) ∧ RoadKit.Fld Z h' x ST "coder" "B" (.int 0) ∧
  (∃ kb, Z.vm.findClass "[B" = some kb ∧ RoadKit.Arv Z h' h.size kb .byte zn (cs.map fun c => .int (lo8 c)) (.int 0)) ∧
  ∀ (O n d : String) (w : Value), RoadKit.Fld Z h x O n d w → RoadKit.slotOf Z O n d ≠ RoadKit.slotOf Z ST "value" "[B" → RoadKit.slotOf Z O n d ≠ RoadKit.slotOf Z ST "coder" "B" → RoadKit.Fld Z h' x O n d w
/-- **new String(chars) AT A CALL, THE ARRAYS AS LISTS**: the char[] at b holds cs, not empty, no char above 255 -/
theorem backArv {p : Program} {l : Launch} {e : Env} {R : Room} {s : State} {args : Array Value} {below : List Frame} {len W : Nat} {Z : State} {a0 : Array Value} {h : Heap} (hZ : Z.Warmed39 s.vm) (hw : ∀ d ∈ words, d.before a0 Z = true) {kI : Nat} (wi : (Jvm.Cond.instantiable ST kI).before a0 Z = true)
    {x b : Addr} {k : ClassId} {zn z : Int32} {cs : List Int32} {dv v0 c0 : Value} (E : RoadKit.Exa Z h x ST) (V : RoadKit.Fld Z h x ST "value" "[B" v0) (C : RoadKit.Fld Z h x ST "coder" "B" c0) (K : RoadKit.Arv Z h b k .char zn (cs.map Value.int) dv) (S : RoadKit.Sta Z h ST "COMPACT_STRINGS" "Z" (.int z)) (hz : ¬ z = 0)
    (hlen : zn.toNatClampNeg = cs.length) (h0 : 0 < cs.length) (hbig : cs.length ≤ 536870912) (hall : ∀ c ∈ cs, ¬ 255 < c) (hfr : 4 ≤ R.frames) (hlo : W + 65 ≤ R.locals) :
    Back l R p e below s args New1.yN len W (fun P a => a = #[.ref x, .ref b] ∧ P.U.heap = h ∧ P.cells + 1 ≤ R.cells ∧ P.slots + cs.length ≤ R.slots)
      (fun P _ v B => ∃ L, QA Z x zn cs h v B.U.heap L ∧ B.locs = P.locs ++ L ∧ B.cells = P.cells + 1 ∧ B.slots = P.slots + cs.length) := by
  obtain ⟨A, K1, K2, K3, K4, K5, K6⟩ := K
  have e : A.slots.size = cs.length := K3.trans hlen
  have hat : ∀ (i : Nat) (hi : i < cs.length), A.slots[i]? = some (.int cs[i]) := fun i hi => by rw [K5 i (by omega)]; simp [List.getD_eq_getElem?_getD, hi]
  have hcv : ∀ (i : Nat) (hi : i < cs.length), cv A i = cs[i] := fun i hi => by unfold cv; rw [hat i hi]
  have hty : Typed .char A := fun i v hv => by
    have hi : i < A.slots.size := (Array.getElem?_eq_some_iff.mp hv).1
    have q := K5 i hi
    rw [hv] at q
    rw [Option.some.inj q]
    exact K6 i hi
  refine Back.mono (back hZ hw wi E V C K1 hty S hz (by omega) (by omega) (fun i hi => by rw [hcv i (by omega)]; exact hall _ (List.getElem_mem _)) hfr hlo) (fun P a hp => ⟨hp.1, hp.2.1, hp.2.2.1, by rw [e]; exact hp.2.2.2⟩) (fun P a v B hp hq => ?_)
  obtain ⟨L, ⟨q1, q2, q3, q4, q5, q6, q7, ⟨V', v1, v2, v3, v4, v5⟩, q9⟩, hl, hc, hs⟩ := hq
  refine ⟨L, ⟨q1, q2, q3, q4, q5, q6, q7, ⟨V'.cls, v3, V', v1, rfl, by rw [v4, e, hlen], K4, fun i hi => ?_, fun i hi => ?_⟩, q9⟩, hl, hc, by rw [hs, e]⟩
  · have hi' : i < cs.length := by omega
    rw [v5 i (by omega), hcv i hi']; simp [List.getD_eq_getElem?_getD, hi']
  · have hi' : i < cs.length := by omega
    simp only [List.getD_eq_getElem?_getD, List.getElem?_map, List.getElem?_eq_getElem hi', Option.map_some, Option.getD_some]
    exact fits_lo8 _
end StrChars.Road
namespace StrChars.Road
open Jvm Sem ClassFile Op Lib Jvm.Stand Jvm.Free Jvm.Free.XT
/-- WHAT COMES BACK, in the writer's own shape -/
def QV (Z : State) (x : Addr) (N : Int32) (bs : List Int32) (h : Heap) (n0 : Nat) (v : Option Value) (h' : Heap) (L : List Loc) : Prop := v = none ∧ RoadKit.Fr n0 L ∧ RoadKit.Keep h h' [x] ∧ RoadKit.Exa Z h' x ST ∧ RoadKit.Fld Z h' x ST "coder" "B" (.int 0) ∧
  ∃ (t : Addr) (kb : ClassId), n0 ≤ t ∧ h.size ≤ t ∧ ¬ t = x ∧ RoadKit.Fld Z h' x ST "value" "[B" (.ref t) ∧ RoadKit.Arv Z h' t kb .byte N (bs.map Value.int) (.int 0)
/-- **new String(chars) AT A CALL, FOR THE WRITER**: a char[] of n known ints, each 0 to 255 -/
theorem backV {p : Program} {l : Launch} {e : Env} {R : Room} {s : State} {args : Array Value} {below : List Frame} {len W : Nat} {Z : State} {a0 : Array Value} {h : Heap} (hZ : Z.Warmed39 s.vm) (hw : ∀ d ∈ words, d.before a0 Z = true) {kI : Nat} (wi : (Jvm.Cond.instantiable ST kI).before a0 Z = true)
    {x b : Addr} {kC : ClassId} {cs bs : List Int32} {d v0 c0 : Value} {z N : Int32} {n n0 : Nat} (hx0 : n0 ≤ x) (hh0 : n0 ≤ h.size) (E : RoadKit.Exa Z h x ST) (V : RoadKit.Fld Z h x ST "value" "[B" v0) (C : RoadKit.Fld Z h x ST "coder" "B" c0) (K : RoadKit.Arv Z h b kC .char N (cs.map Value.int) d) (S : RoadKit.Sta Z h ST "COMPACT_STRINGS" "Z" (.int z)) (hz : ¬ z = 0)
    (hn : cs.length = n) (hN : N = Int32.ofNat n) (l0 : 0 < n) (l2 : n ≤ 4000) (hp : ∀ c ∈ cs, ¬ c < 0 ∧ ¬ (255 : Int32) < c) (hb : bs = cs.map (fun c => c.toInt8.toInt32)) (hfr : 4 ≤ R.frames) (hlo : W + 65 ≤ R.locals) :
    Back l R p e below s args (⟨"java/lang/String", "<init>", "([C)V"⟩ : MethodName) len W (fun P a => a = #[.ref x, .ref b] ∧ P.U.heap = h ∧ P.cells + 1 ≤ R.cells ∧ P.slots + n ≤ R.slots)
      (fun P _ v B => ∃ L, QV Z x N bs h n0 v B.U.heap L ∧ B.locs = P.locs ++ L ∧ B.cells = P.cells + 1 ∧ B.slots = P.slots + n) := by
  subst hn hN hb
  refine Back.mono (backArv hZ hw wi E V C K S hz (n32 (by omega)) l0 (by omega) (fun c hc => (hp c hc).2) hfr hlo) (fun P a hp => hp) (fun P a v B hp hq => ?_)
  obtain ⟨L, ⟨q1, q2, q3, q4, q5, q6, q7, ⟨kb, v1, v2⟩, q9⟩, hl, hc, hs⟩ := hq
  exact ⟨L, ⟨q1, fun y hy => by rw [q2 y hy]; exact hx0, q3, q5, q7, h.size, kb, hh0, Nat.le_refl _, Nat.ne_of_gt E.lt, q6, by rw [List.map_map]; exact v2⟩, hl, hc, hs⟩
end StrChars.Road
namespace StrChars
open Jvm Sem ClassFile Op Lib Jvm.Stand Jvm.Free.XT Jvm.Free.ALB Jvm.Free.JM Jvm.Free
open Jvm.Lib.Cold (StaticIs)
def hi8 (x : Int32) : Int32 := lo8 (x >>> ((8 : Int32) &&& 31))
/-- what StringUTF16.getChar makes of two bytes -/
def pairCh (u v : Int32) : Int32 := (((u &&& 255) <<< ((0 : Int32) &&& 31)) ||| ((v &&& 255) <<< ((8 : Int32) &&& 31))).toUInt32.toUInt16.toUInt32.toInt32
theorem lo8_and (x : Int32) : (lo8 x &&& 255).toBitVec.toNat = x.toBitVec.toNat % 256 := by
  have h : (lo8 x).toBitVec = (x.toBitVec.signExtend 8).signExtend 32 := by rw [lo8, Int8.toBitVec_toInt32, Int32.toBitVec_toInt8]
  rw [Int32.toBitVec_and, BitVec.toNat_and, h]
  have e : ((x.toBitVec.signExtend 8).signExtend 32).toNat % 256 = x.toBitVec.toNat % 256 := by
    rw [BitVec.toNat_signExtend]
    have hlt := x.toBitVec.isLt
    simp only [BitVec.toNat_setWidth, BitVec.toNat_signExtend]
    split <;> split <;> omega
  rw [← e]
  exact Nat.and_two_pow_sub_one_eq_mod _ 8
theorem pair_says {c : Int32} (h0 : ¬ c < 0) (h1 : ¬ 65535 < c) : pairCh (lo8 c) (hi8 c) = c := by
  rw [Int32.lt_iff_toInt_lt] at h0 h1
  have e0 : (0 : Int32).toInt = 0 := rfl
  have e1 : (65535 : Int32).toInt = 65535 := rfl
  have hc : c.toInt = c.toBitVec.toNat := by
    have := c.toBitVec.isLt
    have e : c.toInt = c.toBitVec.toInt := rfl
    rw [e] at h0 h1
    rw [e]
    rw [BitVec.toInt_eq_toNat_cond] at h0 h1 ⊢
    split at h0 <;> split <;> omega
  have hn : c.toBitVec.toNat < 65536 := by omega
  have a1 := lo8_and c
  have a2 : (hi8 c &&& 255).toBitVec.toNat = c.toBitVec.toNat / 256 := by
    rw [hi8, lo8_and]
    have e : ((8 : Int32) &&& 31) = 8 := by decide
    rw [e, Int32.toBitVec_shiftRight]
    have e2 : ((8 : Int32).toBitVec.smod 32) = 8#32 := by decide
    rw [e2, BitVec.sshiftRight_eq', BitVec.toNat_sshiftRight_of_msb_false (by rw [BitVec.msb_eq_false_iff_two_mul_lt]; omega)]
    show c.toBitVec.toNat >>> 8 % 256 = _
    rw [Nat.shiftRight_eq_div_pow]
    omega
  unfold pairCh
  apply Int32.toBitVec_inj.mp
  apply BitVec.eq_of_toNat_eq
  have f0 : ((0 : Int32) &&& 31) = 0 := by decide
  have f8 : ((8 : Int32) &&& 31) = 8 := by decide
  rw [f0, f8]
  have g : (((lo8 c &&& 255) <<< (0 : Int32)) ||| ((hi8 c &&& 255) <<< (8 : Int32))).toBitVec.toNat = c.toBitVec.toNat := by
    rw [Int32.toBitVec_or, Int32.toBitVec_shiftLeft, Int32.toBitVec_shiftLeft]
    have s0 : ((0 : Int32).toBitVec.smod 32) = 0#32 := by decide
    have s8 : ((8 : Int32).toBitVec.smod 32) = 8#32 := by decide
    rw [s0, s8, BitVec.toNat_or]
    simp only [BitVec.shiftLeft_eq', BitVec.toNat_shiftLeft, a1, a2]
    show (c.toBitVec.toNat % 256) <<< 0 % 2 ^ 32 ||| (c.toBitVec.toNat / 256) <<< 8 % 2 ^ 32 = _
    rw [Nat.shiftLeft_zero, Nat.mod_eq_of_lt (show c.toBitVec.toNat % 256 < 2 ^ 32 by omega), Nat.mod_eq_of_lt (show (c.toBitVec.toNat / 256) <<< 8 < 2 ^ 32 by rw [Nat.shiftLeft_eq]; omega), Nat.or_comm, ← Nat.shiftLeft_add_eq_or_of_lt (by omega), Nat.shiftLeft_eq]
    omega
  show BitVec.toNat (((((lo8 c &&& 255) <<< (0 : Int32)) ||| ((hi8 c &&& 255) <<< (8 : Int32))).toBitVec.setWidth 16).setWidth 32) = _
  rw [BitVec.toNat_setWidth, BitVec.toNat_setWidth, g]
  omega
end StrChars
namespace StrChars
open Jvm Sem ClassFile Op Lib Jvm.Stand Jvm.Free.XT Jvm.Free.ALB Jvm.Free.JM Jvm.Free
open Jvm.Lib.Cold (StaticIs)
/-- the array's cell V codes the n chars f 0 .. f (n - 1) by the coder cd, as the JDK does: coder 1 just where some char is above 255 -/
def Cod (cd : Int32) (n : Nat) (f : Nat → Int32) (V : Cell) : Prop := (cd = 0 ∧ V.slots.size = n ∧ ∀ j, j < n → V.slots[j]? = some (.int (lo8 (f j))) ∧ ¬ 255 < f j) ∨ (cd = 1 ∧ V.slots.size = 2 * n ∧ (∀ j, j < n → V.slots[2 * j]? = some (.int (lo8 (f j))) ∧ V.slots[2 * j + 1]? = some (.int (hi8 (f j)))) ∧ ∃ j, j < n ∧ 255 < f j)
/-- **x is a String of the n chars f 0 .. f (n - 1)**, Latin-1 or UTF-16; its array at t has the cell V -/
def Txt (x t : Addr) (V : Cell) (cd : Int32) (n : Nat) (f : Nat → Int32) (U : State) : Prop := Exact "java/lang/String" x U ∧ Has x "java/lang/String" "value" "[B" (.ref t) U ∧ Has x "java/lang/String" "coder" "B" (.int cd) U ∧ XT.Arr .byte t V U ∧ Cod cd n f V ∧ ∀ j, j < n → ¬ f j < 0 ∧ ¬ 65535 < f j
theorem Txt.mv {x t : Addr} {V : Cell} {cd : Int32} {n : Nat} {f : Nat → Int32} {U U' : State} (h : Txt x t V cd n f U) (hal : U.vm.Alike U'.vm) (hh : U'.heap = U.heap) : Txt x t V cd n f U' := ⟨h.1.mv hal hh, h.2.1.mv hal hh, h.2.2.1.mv hal hh, h.2.2.2.1.mv hal hh, h.2.2.2.2⟩
end StrChars
namespace StrChars.Road
open Jvm Sem ClassFile Op Lib Jvm.Stand Jvm.Free Jvm.Free.XT
open Jvm.Lib.Cold (StaticIs)
theorem consq {a : Array Value} {s : State} {c : Jvm.Cond} {L : List Jvm.Cond} (h0 : c.before a s = true) (h : ∀ w ∈ L, w.before a s = true) : ∀ w ∈ c :: L, w.before a s = true := fun w hw => (List.mem_cons.mp hw).elim (fun e => e ▸ h0) (h w)
/-- the bytes of the chars cs, low before high -/
def wideBytes : List Int32 → List Value
  | [] => []
  | c :: cs => .int (lo8 c) :: .int (hi8 c) :: wideBytes cs
theorem wide_lo (d : Value) : ∀ (cs : List Int32) (j : Nat), j < cs.length → (wideBytes cs).getD (2 * j) d = .int (lo8 (cs.getD j 0))
  | [], j, h => absurd h (Nat.not_lt_zero j)
  | c :: cs, 0, _ => rfl
  | c :: cs, j + 1, h => by
    have q := wide_lo d cs j (by simpa using h)
    rw [show 2 * (j + 1) = 2 * j + 1 + 1 from by omega]
    simpa [wideBytes] using q
theorem wide_hi (d : Value) : ∀ (cs : List Int32) (j : Nat), j < cs.length → (wideBytes cs).getD (2 * j + 1) d = .int (hi8 (cs.getD j 0))
  | [], j, h => absurd h (Nat.not_lt_zero j)
  | c :: cs, 0, _ => rfl
  | c :: cs, j + 1, h => by
    have q := wide_hi d cs j (by simpa using h)
    rw [show 2 * (j + 1) + 1 = 2 * j + 1 + 1 + 1 from by omega]
    simpa [wideBytes] using q
theorem low_at (d : Value) (cs : List Int32) (j : Nat) (h : j < cs.length) : (cs.map fun c => Value.int (lo8 c)).getD j d = .int (lo8 (cs.getD j 0)) := by
  simp [List.getD_eq_getElem?_getD, h]
/-- an array of N2 bytes vs codes the chars cs by the coder cd -/
def CodA (cs : List Int32) (cd N2 : Int32) (vs : List Value) : Prop := (cd = 0 ∧ N2 = Int32.ofNat cs.length ∧ vs = (cs.map fun c => Value.int (lo8 c)) ∧ ∀ c ∈ cs, ¬ 255 < c) ∨ (cd = 1 ∧ N2 = Int32.ofNat (2 * cs.length) ∧ vs = wideBytes cs ∧ ∃ c ∈ cs, 255 < c)
theorem CodA.cod {cs : List Int32} {cd N2 : Int32} {vs : List Value} {V : Cell} (h : CodA cs cd N2 vs) (hn : 2 * cs.length < 2 ^ 31) (hs : V.slots.size = N2.toNatClampNeg) (hv : RoadKit.Has V vs (.int 0)) : Cod cd cs.length (fun j => cs.getD j 0) V := by
  rcases h with ⟨rfl, rfl, rfl, h⟩ | ⟨rfl, rfl, rfl, c, hc, hw⟩
  · rw [n32 (by omega)] at hs
    exact Or.inl ⟨rfl, hs, fun j hj => ⟨by rw [hv j (by omega), low_at _ _ _ hj], by
      have e : cs.getD j 0 = cs[j] := by simp [List.getD_eq_getElem?_getD, hj]
      show ¬ 255 < cs.getD j 0
      rw [e]; exact h _ (List.getElem_mem _)⟩⟩
  · rw [n32 (by omega)] at hs
    obtain ⟨j, hj, rfl⟩ := List.getElem_of_mem hc
    exact Or.inr ⟨rfl, hs, fun j hj => ⟨by rw [hv _ (by omega), wide_lo _ _ _ hj], by rw [hv _ (by omega), wide_hi _ _ _ hj]⟩, j, hj, by
      have e : cs.getD j 0 = cs[j] := by simp [List.getD_eq_getElem?_getD, hj]
      show 255 < cs.getD j 0
      rw [e]; exact hw⟩
/-- an object of exactly java/lang/String, its two fields found: as the laws ask it -/
theorem strObj {Z U : State} {a0 : Array Value} {kI : Nat} (wi : (Jvm.Cond.instantiable ST kI).before a0 Z = true) (al : Z.vm.Alike U.vm) {x : Addr} {v0 c0 : Value} (E : RoadKit.Exa Z U.heap x ST) (V : RoadKit.Fld Z U.heap x ST "value" "[B" v0) (C : RoadKit.Fld Z U.heap x ST "coder" "B" c0) :
    ∃ (D : Cell) (fV fC : Field), Blank ST x D U ∧ Found ST "value" "[B" fV U ∧ Found ST "coder" "B" fC U ∧ D.slots[fV.slot]? = some v0 ∧ D.slots[fC.slot]? = some c0 ∧ RoadKit.slotOf Z ST "value" "[B" = fV.slot ∧ RoadKit.slotOf Z ST "coder" "B" = fC.slot := by
  obtain ⟨D, cfV, kV, iV, fV, hD, gV, stV, knV, obV, asV, slV⟩ := V
  obtain ⟨D', cfC, kC, iC, fC, hD', gC, stC, -, -, asC, slC⟩ := C
  cases hD.symm.trans hD'
  obtain ⟨D2, kD, e1, e2, e3, e4, e5⟩ := E
  cases hD.symm.trans e1
  obtain ⟨c2, k2, i1, i2, i3, -⟩ := Cond.instantiable_spec wi
  cases e2.symm.trans i1
  cases e3.symm.trans i2
  obtain ⟨kU, u1, u2⟩ := al.2.2 _ _ e3
  exact ⟨D, fV, fC, ⟨hD, ⟨knV, fun q hq => by rw [hq] at obV; cases obV⟩, by rw [al.findClass]; exact e2, kU, u1, by rw [u2]; exact i3, by rw [u2]; exact e5 i3⟩, ⟨SBG.found_only al ⟨cfV, kV, iV, gV⟩, stV⟩, ⟨SBG.found_only al ⟨cfC, kC, iC, gC⟩, stC⟩, slV, slC, by simp [RoadKit.slotOf, gV], by simp [RoadKit.slotOf, gC]⟩
theorem sta_is {Z U : State} (al : Z.vm.Alike U.vm) {C n d : String} {v : Value} (S : RoadKit.Sta Z U.heap C n d v) : StaticIs U C n d v := by
  obtain ⟨cfS, iS, kS, fS, st, cS, t1, t2, t3, t4, t5, t6, t7⟩ := S
  exact StaticIs.there (s := { Z with heap := U.heap }) ⟨cfS, iS, kS, fS, st, cS, t1, t2, t3, t4, t5, (fun q => by rw [q] at t6; cases t6), t7⟩ al rfl
end StrChars.Road
namespace StrChars
open Jvm Sem ClassFile Op Lib Jvm.Stand Jvm.Free.XT Jvm.Free.ALB Jvm.Free.JM Jvm.Free
open Jvm.Lib.Cold (StaticIs)
/-- what place i of a byte[]'s cell holds -/
def yv (A : Cell) (i : Nat) : Int32 := match A.slots[i]? with | some (.int x) => x | _ => 0
theorem yv_get {a : Addr} {A : Cell} {U : State} (h : XT.Arr .byte a A U) (ht : Typed .byte A) {i : Nat} (hi : i < A.slots.size) : A.slots[i]? = some (.int (yv A i)) := by
  have e := Array.getElem?_eq_getElem hi
  have f := ht i _ e
  unfold yv; rw [e]
  generalize A.slots[i] = v at f
  cases v <;> simp [fits] at f ⊢
/-- the two arrays are equal, place for place -/
def EqC (A B : Cell) : Prop := A.slots.size = B.slots.size ∧ ∀ i, i < A.slots.size → yv A i = yv B i
/-- a boolean that says whether p -/
def Says01 (q : Prop) (r : Option Value) (s u : State) : Prop := ∃ v : Int32, r = some (.int v) ∧ u.heap = s.heap ∧ ((v = 1 ∧ q) ∨ (v = 0 ∧ ¬ q))
theorem Says01.mv {q : Prop} : ∀ r (U U' V V' : State), U'.heap = U.heap → V.vm.Alike V'.vm → V'.heap = V.heap → Says01 q r U V → Says01 q r U' V' :=
  fun r U U' V V' h1 _ h2 ⟨v, a, b, c⟩ => ⟨v, a, by rw [h1, h2]; exact b, c⟩
namespace LEq
def yN : MethodName := ⟨"java/lang/StringLatin1", "equals", "([B[B)Z"⟩
abbrev yB : ByteArray := jdk_43_method_13_code
theorem d0 : decode yB 0 = .ok (.aload_n 0, 1) := by decide +kernel
theorem d1 : decode yB 1 = .ok (.arraylength, 1) := by decide +kernel
theorem d2 : decode yB 2 = .ok (.aload_n 1, 1) := by decide +kernel
theorem d3 : decode yB 3 = .ok (.arraylength, 1) := by decide +kernel
theorem d4 : decode yB 4 = .ok (.if_icmp (.ne) 30, 3) := by decide +kernel
theorem d7 : decode yB 7 = .ok (.iconst 0, 1) := by decide +kernel
theorem d8 : decode yB 8 = .ok (.istore_n 2, 1) := by decide +kernel
theorem d9 : decode yB 9 = .ok (.iload_n 2, 1) := by decide +kernel
theorem d10 : decode yB 10 = .ok (.aload_n 0, 1) := by decide +kernel
theorem d11 : decode yB 11 = .ok (.arraylength, 1) := by decide +kernel
theorem d12 : decode yB 12 = .ok (.if_icmp (.ge) 20, 3) := by decide +kernel
theorem d15 : decode yB 15 = .ok (.aload_n 0, 1) := by decide +kernel
theorem d16 : decode yB 16 = .ok (.iload_n 2, 1) := by decide +kernel
theorem d17 : decode yB 17 = .ok (.baload, 1) := by decide +kernel
theorem d18 : decode yB 18 = .ok (.aload_n 1, 1) := by decide +kernel
theorem d19 : decode yB 19 = .ok (.iload_n 2, 1) := by decide +kernel
theorem d20 : decode yB 20 = .ok (.baload, 1) := by decide +kernel
theorem d21 : decode yB 21 = .ok (.if_icmp (.eq) 5, 3) := by decide +kernel
theorem d24 : decode yB 24 = .ok (.iconst 0, 1) := by decide +kernel
theorem d25 : decode yB 25 = .ok (.ireturn, 1) := by decide +kernel
theorem d26 : decode yB 26 = .ok (.iinc 2 1, 3) := by decide +kernel
theorem d29 : decode yB 29 = .ok (.goto (-20), 3) := by decide +kernel
theorem d32 : decode yB 32 = .ok (.iconst 1, 1) := by decide +kernel
theorem d33 : decode yB 33 = .ok (.ireturn, 1) := by decide +kernel
theorem d34 : decode yB 34 = .ok (.iconst 0, 1) := by decide +kernel
theorem d35 : decode yB 35 = .ok (.ireturn, 1) := by decide +kernel
def site : List Cond := []
def tab : Cond := tabOf yN yB 3 (some .boolean) site
def P (a : Addr) (A : Cell) (b : Addr) (B : Cell) (args : Array Value) (s : State) : Prop := args = #[.ref a, .ref b] ∧ XT.Arr .byte a A s ∧ Typed .byte A ∧ XT.Arr .byte b B s ∧ Typed .byte B
/-- whether two byte[] are equal, place for place -/
theorem law (l : Launch) (a : Addr) (A : Cell) (b : Addr) (B : Cell) : Law l yN 2 2 0 0 yB 3 (some .boolean) site (P a A b B) (Says01 (EqC A B)) [] 0 0 := by
  refine Law.of_walk (plainFor_of_name (by decide +kernel)) (by decide +kernel) (by decide +kernel) (by decide) (fun _ _ h => by rw [h.1]; rfl) (fun _ U U' hal hh h => ⟨h.1, h.2.1.mv hal hh, h.2.2.1, h.2.2.2.1.mv hal hh, h.2.2.2.2⟩) (fun r U U' V V' h1 hal h2 h => Says01.mv r U U' V V' h1 hal h2 h) ?_
  intro p e s m args below meth c s₁ X0 hexec hbytes hml hret hlk hnm hown hh0 W hP
  obtain ⟨rfl, hA, tA, hB, tB⟩ := hP
  have a31 := hA.2.2.2
  have b31 := hB.2.2.2
  have hA0 := hA.mv X0.warmed.alike hh0
  have hB0 := hB.mv X0.warmed.alike hh0
  have c1 : Steps p.tables e below (s₁.setTop (entryFrame m #[.ref a, .ref b] 3)) (s₁.setTop (mkF m 0 #[.val (.ref a), .val (.ref b), .unset] [])) := entry rfl
  have c2 : Steps p.tables e below (s₁.setTop (entryFrame m #[.ref a, .ref b] 3)) (s₁.setTop (mkF m 4 #[.val (.ref a), .val (.ref b), .unset] [.int (Int32.ofNat B.slots.size), .int (Int32.ofNat A.slots.size)])) := c1.trans (by
    refine XS.aloadN X0.here hexec rfl (hb hbytes d0) rfl rfl ?_
    refine X0.alen hexec hA0 rfl rfl (hb hbytes d1) ?_
    refine XS.aloadN X0.here hexec rfl (hb hbytes d2) rfl rfl ?_
    refine X0.alen hexec hB0 rfl rfl (hb hbytes d3) ?_
    exact Steps.refl _)
  by_cases hs : A.slots.size = B.slots.size
  · have c3 : Steps p.tables e below (s₁.setTop (entryFrame m #[.ref a, .ref b] 3)) (s₁.setTop (mkF m 9 #[.val (.ref a), .val (.ref b), .val (.int 0)] [])) := c2.trans (by
      refine XS.icmpNo X0.here hexec rfl (hb hbytes d4) rfl (ii_ne_f (by rw [hs])) ?_
      refine iconstV X0.here hexec rfl 0 (hb hbytes d7) (by decide) ?_
      refine XS.istoreN X0.here hexec rfl (hb hbytes d8) rfl rfl ?_
      exact Steps.refl _)
    have loop : ∀ (r i : Nat), i + r = A.slots.size → (∀ j, j < i → yv A j = yv B j) → Steps p.tables e below (s₁.setTop (entryFrame m #[.ref a, .ref b] 3)) (s₁.setTop (mkF m 9 #[.val (.ref a), .val (.ref b), .val (.int (Int32.ofNat i))] [])) → ∃ (pc : Nat) (Ls : Array Slot) (v : Int32), (pc = 25 ∨ pc = 33) ∧ ((v = 1 ∧ EqC A B) ∨ (v = 0 ∧ ¬ EqC A B)) ∧ Steps p.tables e below (s₁.setTop (entryFrame m #[.ref a, .ref b] 3)) (s₁.setTop (mkF m pc Ls [.int v])) := by
      intro r
      induction r with
      | zero =>
        intro i hi he cl
        exact ⟨33, _, 1, Or.inr rfl, Or.inl ⟨rfl, hs, fun j hj => he j (by omega)⟩, cl.trans (by
          refine XS.iloadN X0.here hexec rfl (hb hbytes d9) rfl ?_
          refine XS.aloadN X0.here hexec rfl (hb hbytes d10) rfl rfl ?_
          refine X0.alen hexec hA0 rfl rfl (hb hbytes d11) ?_
          refine XS.icmpYes X0.here hexec rfl (pc0 := 12) rfl (hb hbytes d12) rfl (ii_ge_t (nlt32 (by omega) (by omega))) (by decide) rfl ?_
          refine iconstV X0.here hexec rfl 1 (hb hbytes d32) (by decide) ?_
          exact Steps.refl _)⟩
      | succ r ih =>
        intro i hi he cl
        have c4 : Steps p.tables e below (s₁.setTop (entryFrame m #[.ref a, .ref b] 3)) (s₁.setTop (mkF m 21 #[.val (.ref a), .val (.ref b), .val (.int (Int32.ofNat i))] [.int (yv B i), .int (yv A i)])) := cl.trans (by
          refine XS.iloadN X0.here hexec rfl (hb hbytes d9) rfl ?_
          refine XS.aloadN X0.here hexec rfl (hb hbytes d10) rfl rfl ?_
          refine X0.alen hexec hA0 rfl rfl (hb hbytes d11) ?_
          refine XS.icmpNo X0.here hexec rfl (hb hbytes d12) rfl (ii_ge_f (lt32 (by omega) (by omega))) ?_
          refine XS.aloadN X0.here hexec rfl (hb hbytes d15) rfl rfl ?_
          refine XS.iloadN X0.here hexec rfl (hb hbytes d16) rfl ?_
          refine X0.aget hexec hA0 rfl (yv_get hA tA (i := i) (by omega)) rfl rfl (hb hbytes d17) ?_
          refine XS.aloadN X0.here hexec rfl (hb hbytes d18) rfl rfl ?_
          refine XS.iloadN X0.here hexec rfl (hb hbytes d19) rfl ?_
          refine X0.aget hexec hB0 rfl (yv_get hB tB (i := i) (by omega)) rfl rfl (hb hbytes d20) ?_
          exact Steps.refl _)
        by_cases hv : yv A i = yv B i
        · have c5 : Steps p.tables e below (s₁.setTop (entryFrame m #[.ref a, .ref b] 3)) (s₁.setTop (mkF m 9 #[.val (.ref a), .val (.ref b), .val (.int (Int32.ofNat i + 1))] [])) := c4.trans (by
            refine XS.icmpYes X0.here hexec rfl (pc0 := 21) rfl (hb hbytes d21) rfl (ii_eq_t hv) (by decide) rfl ?_
            refine iincV X0.here hexec rfl 1 (hb hbytes d26) (by decide) rfl rfl ?_
            refine XS.goto X0.here hexec rfl (pc0 := 29) rfl (hb hbytes d29) (by decide) rfl ?_
            exact Steps.refl _)
          rw [succ32] at c5
          exact ih (i + 1) (by omega) (fun j hj => by
            by_cases e : j = i
            · rw [e]; exact hv
            · exact he j (by omega)) c5
        · exact ⟨25, _, 0, Or.inl rfl, Or.inr ⟨rfl, fun q => hv (q.2 i (by omega))⟩, c4.trans (by
            refine XS.icmpNo X0.here hexec rfl (hb hbytes d21) rfl (ii_eq_f hv) ?_
            refine iconstV X0.here hexec rfl 0 (hb hbytes d24) (by decide) ?_
            exact Steps.refl _)⟩
    obtain ⟨pc, Ls, v, hpc, hv, cz⟩ := loop A.slots.size 0 (by omega) (fun j hj => absurd hj (Nat.not_lt_zero j)) c3
    have nv : narrow .boolean (.int v) = .int v := by rcases hv with ⟨rfl, -⟩ | ⟨rfl, -⟩ <;> rfl
    rcases hpc with rfl | rfl
    · exact ⟨s₁, some (.int v), _, _, _, X0, rfl, rfl, rfl, (fun h => by cases h), ⟨v, rfl, hh0, hv⟩, fun fs hl => cz.trans (X0.ireturnOut hexec hret nv (Or.inr (Or.inl rfl)) (hb hbytes d25) hl)⟩
    · exact ⟨s₁, some (.int v), _, _, _, X0, rfl, rfl, rfl, (fun h => by cases h), ⟨v, rfl, hh0, hv⟩, fun fs hl => cz.trans (X0.ireturnOut hexec hret nv (Or.inr (Or.inl rfl)) (hb hbytes d33) hl)⟩
  · have c3 : Steps p.tables e below (s₁.setTop (entryFrame m #[.ref a, .ref b] 3)) (s₁.setTop (mkF m 35 #[.val (.ref a), .val (.ref b), .unset] [.int 0])) := c2.trans (by
      refine XS.icmpYes X0.here hexec rfl (pc0 := 4) rfl (hb hbytes d4) rfl (ii_ne_t (ne32 a31 b31 hs)) (by decide) rfl ?_
      refine iconstV X0.here hexec rfl 0 (hb hbytes d34) (by decide) ?_
      exact Steps.refl _)
    exact ⟨s₁, some (.int 0), _, _, _, X0, rfl, rfl, rfl, (fun h => by cases h), ⟨0, rfl, hh0, Or.inr ⟨rfl, fun q => hs q.1⟩⟩, fun fs hl => c3.trans (X0.ireturnOut hexec hret rfl (Or.inr (Or.inl rfl)) (hb hbytes d35) hl)⟩
end LEq
theorem Cod.ty {cd : Int32} {n : Nat} {f : Nat → Int32} {V : Cell} (h : Cod cd n f V) : Typed .byte V := fun i v hv => by
  have hi : i < V.slots.size := (Array.getElem?_eq_some_iff.mp hv).1
  rcases h with ⟨-, k1, k2⟩ | ⟨-, k1, k2, -⟩
  · rw [(k2 i (by omega)).1] at hv; cases hv; exact fits_lo8 _
  · rcases Nat.mod_two_eq_zero_or_one i with e | e
    · obtain ⟨j, rfl⟩ : ∃ j, i = 2 * j := ⟨i / 2, by omega⟩
      rw [(k2 j (by omega)).1] at hv; cases hv; exact fits_lo8 _
    · obtain ⟨j, rfl⟩ : ∃ j, i = 2 * j + 1 := ⟨i / 2, by omega⟩
      rw [(k2 j (by omega)).2] at hv; cases hv; exact fits_lo8 _
/-- the same text -/
def SameT (n : Nat) (f : Nat → Int32) (k : Nat) (g : Nat → Int32) : Prop := n = k ∧ ∀ j, j < n → f j = g j
theorem lo8_inj {x y : Int32} (h0 : ¬ x < 0) (h1 : ¬ 255 < x) (k0 : ¬ y < 0) (k1 : ¬ 255 < y) (h : lo8 x = lo8 y) : x = y := by
  rw [← lo8_mask h0 h1, ← lo8_mask k0 k1, h]
/-- arrays coded by one coder are equal just where the texts are -/
theorem Cod.eqv {cd : Int32} {n k : Nat} {f g : Nat → Int32} {V V' : Cell} (h : Cod cd n f V) (h' : Cod cd k g V') (hf : ∀ j, j < n → ¬ f j < 0 ∧ ¬ 65535 < f j) (hg : ∀ j, j < k → ¬ g j < 0 ∧ ¬ 65535 < g j) : EqC V V' ↔ SameT n f k g := by
  have yvv : ∀ {W : Cell} {i : Nat} {x : Int32}, W.slots[i]? = some (.int x) → yv W i = x := fun q => by unfold yv; rw [q]
  rcases h with ⟨rfl, k1, k2⟩ | ⟨rfl, k1, k2, -⟩
  · rcases h' with ⟨-, m1, m2⟩ | ⟨e, -⟩
    · constructor
      · rintro ⟨e1, e2⟩
        refine ⟨by omega, fun j hj => ?_⟩
        have q := e2 j (by omega)
        rw [yvv (k2 j hj).1, yvv (m2 j (by omega)).1] at q
        exact lo8_inj (hf j hj).1 (k2 j hj).2 (hg j (by omega)).1 (m2 j (by omega)).2 q
      · rintro ⟨rfl, e2⟩
        refine ⟨by omega, fun j hj => ?_⟩
        rw [yvv (k2 j (by omega)).1, yvv (m2 j (by omega)).1, e2 j (by omega)]
    · exact absurd e (by decide)
  · rcases h' with ⟨e, -⟩ | ⟨-, m1, m2, -⟩
    · exact absurd e (by decide)
    · constructor
      · rintro ⟨e1, e2⟩
        refine ⟨by omega, fun j hj => ?_⟩
        have q1 := e2 (2 * j) (by omega)
        have q2 := e2 (2 * j + 1) (by omega)
        rw [yvv (k2 j hj).1, yvv (m2 j (by omega)).1] at q1
        rw [yvv (k2 j hj).2, yvv (m2 j (by omega)).2] at q2
        rw [← pair_says (hf j hj).1 (hf j hj).2, ← pair_says (hg j (by omega)).1 (hg j (by omega)).2, q1, q2]
      · rintro ⟨rfl, e2⟩
        refine ⟨by omega, fun i hi => ?_⟩
        rcases Nat.mod_two_eq_zero_or_one i with e | e
        · obtain ⟨j, rfl⟩ : ∃ j, i = 2 * j := ⟨i / 2, by omega⟩
          rw [yvv (k2 j (by omega)).1, yvv (m2 j (by omega)).1, e2 j (by omega)]
        · obtain ⟨j, rfl⟩ : ∃ j, i = 2 * j + 1 := ⟨i / 2, by omega⟩
          rw [yvv (k2 j (by omega)).2, yvv (m2 j (by omega)).2, e2 j (by omega)]
/-- two codings differ: so do the texts -/
theorem Cod.dif {cd cd' : Int32} {n k : Nat} {f g : Nat → Int32} {V V' : Cell} (h : Cod cd n f V) (h' : Cod cd' k g V') (hne : ¬ cd = cd') : ¬ SameT n f k g := by
  rintro ⟨rfl, e⟩
  rcases h with ⟨rfl, -, k2⟩ | ⟨rfl, -, -, j, hj, hw⟩
  · rcases h' with ⟨rfl, -⟩ | ⟨-, -, -, j, hj, hw⟩
    · exact hne rfl
    · exact (k2 j hj).2 (by rw [e j hj]; exact hw)
  · rcases h' with ⟨-, -, m2⟩ | ⟨rfl, -⟩
    · exact (m2 j hj).2 (by rw [← e j hj]; exact hw)
    · exact hne rfl
/-- an object of exactly C is an instance of C -/
theorem cinst {p : Program} {l : Launch} {e : Env} {R : Room} {s : State} {m : MethodId} {args : Array Value} {below : List Frame} {meth : Method} {c : Code} {T : State} {locs : List Loc} {cells slots : Nat} (X : Stand p l e R s m args below meth c T locs cells slots) (hexec : p.tables.exec = Jvm.exec) {own C : String} {index : Nat} (hown : s.vm.findClass own = some m.cls) (hlink : (Cond.classLink own index C).before args s = true) {a : Addr} (hE : Exact C a T)
    {g : JFrame} (hg : g.method = m) {rest : List Value} (hstack : g.stack = .ref a :: rest) (hdg : decode c.code g.pc = .ok (.instanceof index, 3)) :
    ∃ T', Stand p l e R s m args below meth c T' locs cells slots ∧ T'.heap = T.heap ∧ ∀ target, Steps p.tables e below (T'.setTop { g with pc := g.pc + 3, stack := .int 1 :: rest }) target → Steps p.tables e below (T.setTop g) target := by
  obtain ⟨cB, h1, D, h2, h3, h4⟩ := hE
  have h1' : s.vm.findClass C = some cB := by rw [← X.warmed.alike.findClass]; exact h1
  obtain ⟨vm', X', st⟩ := X.instanceofYes hexec hown hlink h2 h4 h1' (by rw [h3]; exact Jvm.Free.SB.assignable_self _ _) hg hstack hdg
  exact ⟨_, X', rfl, st⟩
theorem cself {p : Program} {l : Launch} {e : Env} {R : Room} {s : State} {m : MethodId} {args : Array Value} {below : List Frame} {meth : Method} {c : Code} {T : State} {locs : List Loc} {cells slots : Nat} (X : Stand p l e R s m args below meth c T locs cells slots) (hexec : p.tables.exec = Jvm.exec) {own C : String} {index : Nat} (hown : s.vm.findClass own = some m.cls) (hlink : (Cond.classLink own index C).before args s = true) {a : Addr} (hE : Exact C a T)
    {g : JFrame} (hg : g.method = m) {rest : List Value} (hstack : g.stack = .ref a :: rest) (hdg : decode c.code g.pc = .ok (.checkcast index, 3)) :
    ∃ T', Stand p l e R s m args below meth c T' locs cells slots ∧ T'.heap = T.heap ∧ ∀ target, Steps p.tables e below (T'.setTop { g with pc := g.pc + 3, stack := .ref a :: rest }) target → Steps p.tables e below (T.setTop g) target := by
  obtain ⟨cB, h1, D, h2, h3, h4⟩ := hE
  have h1' : s.vm.findClass C = some cB := by rw [← X.warmed.alike.findClass]; exact h1
  obtain ⟨vm', X', st⟩ := X.checkcastYes hexec hown hlink h2 h4 h1' (by rw [h3]; exact Jvm.Free.SB.assignable_self _ _) hg hstack hdg
  exact ⟨_, X', rfl, fun t h => st t (by rw [← hstack] at h; exact h)⟩
namespace SEq
def yN : MethodName := ⟨"java/lang/String", "equals", "(Ljava/lang/Object;)Z"⟩
abbrev yB : ByteArray := jdk_42_method_66_code
theorem d0 : decode yB 0 = .ok (.aload_n 0, 1) := by decide +kernel
theorem d1 : decode yB 1 = .ok (.aload_n 1, 1) := by decide +kernel
theorem d2 : decode yB 2 = .ok (.if_acmp (.ne) 5, 3) := by decide +kernel
theorem d5 : decode yB 5 = .ok (.iconst 1, 1) := by decide +kernel
theorem d6 : decode yB 6 = .ok (.ireturn, 1) := by decide +kernel
theorem d7 : decode yB 7 = .ok (.aload_n 1, 1) := by decide +kernel
theorem d8 : decode yB 8 = .ok (.instanceof 10, 3) := by decide +kernel
theorem d11 : decode yB 11 = .ok (.ifCond (.eq) 43, 3) := by decide +kernel
theorem d14 : decode yB 14 = .ok (.aload_n 1, 1) := by decide +kernel
theorem d15 : decode yB 15 = .ok (.checkcast 10, 3) := by decide +kernel
theorem d18 : decode yB 18 = .ok (.astore_n 2, 1) := by decide +kernel
theorem d19 : decode yB 19 = .ok (.getstatic 38, 3) := by decide +kernel
theorem d22 : decode yB 22 = .ok (.ifCond (.eq) 14, 3) := by decide +kernel
theorem d25 : decode yB 25 = .ok (.aload_n 0, 1) := by decide +kernel
theorem d26 : decode yB 26 = .ok (.getfield 15, 3) := by decide +kernel
theorem d29 : decode yB 29 = .ok (.aload_n 2, 1) := by decide +kernel
theorem d30 : decode yB 30 = .ok (.getfield 15, 3) := by decide +kernel
theorem d33 : decode yB 33 = .ok (.if_icmp (.ne) 21, 3) := by decide +kernel
theorem d36 : decode yB 36 = .ok (.aload_n 0, 1) := by decide +kernel
theorem d37 : decode yB 37 = .ok (.getfield 9, 3) := by decide +kernel
theorem d40 : decode yB 40 = .ok (.aload_n 2, 1) := by decide +kernel
theorem d41 : decode yB 41 = .ok (.getfield 9, 3) := by decide +kernel
theorem d44 : decode yB 44 = .ok (.invokestatic 541, 3) := by decide +kernel
theorem d47 : decode yB 47 = .ok (.ifCond (.eq) 7, 3) := by decide +kernel
theorem d50 : decode yB 50 = .ok (.iconst 1, 1) := by decide +kernel
theorem d51 : decode yB 51 = .ok (.goto 4, 3) := by decide +kernel
theorem d54 : decode yB 54 = .ok (.iconst 0, 1) := by decide +kernel
theorem d55 : decode yB 55 = .ok (.ireturn, 1) := by decide +kernel
def site : List Cond := [.classLink "java/lang/String" 10 "java/lang/String", .fieldLink "java/lang/String" 38 "java/lang/String" "COMPACT_STRINGS" "Z", .fieldLink "java/lang/String" 15 "java/lang/String" "coder" "B", .fieldLink "java/lang/String" 9 "java/lang/String" "value" "[B", LEq.tab] ++ staticW "java/lang/String" 541 LEq.yN
def tab : Cond := tabOf yN yB 3 (some .boolean) site
def P (x t : Addr) (V : Cell) (cd : Int32) (n : Nat) (f : Nat → Int32) (y t' : Addr) (V' : Cell) (cd' : Int32) (k : Nat) (g : Nat → Int32) (z : Int32) (args : Array Value) (s : State) : Prop := args = #[.ref x, .ref y] ∧ Txt x t V cd n f s ∧ Txt y t' V' cd' k g s ∧ StaticIs s "java/lang/String" "COMPACT_STRINGS" "Z" (.int z) ∧ ¬ z = 0
/-- equals(Object) of two Strings: whether the texts are the same -/
theorem law (l : Launch) (x t : Addr) (V : Cell) (cd : Int32) (n : Nat) (f : Nat → Int32) (y t' : Addr) (V' : Cell) (cd' : Int32) (k : Nat) (g : Nat → Int32) (z : Int32) : Law l yN 2 1 1 14 yB 3 (some .boolean) site (P x t V cd n f y t' V' cd' k g z) (Says01 (SameT n f k g)) [] 0 0 := by
  refine Law.of_walk (plainFor_of_name (by decide +kernel)) (by decide +kernel) (by decide +kernel) (by decide) (fun _ _ h => by rw [h.1]; rfl) (fun _ U U' hal hh h => ⟨h.1, h.2.1.mv hal hh, h.2.2.1.mv hal hh, h.2.2.2.1.there hal hh, h.2.2.2.2⟩) (fun r U U' V V' h1 hal h2 h => Says01.mv r U U' V V' h1 hal h2 h) ?_
  intro p e s m args below meth c s₁ X0 hexec hbytes hml hret hlk hnm hown hh0 W hP
  obtain ⟨rfl, hx, hy, s1, hz⟩ := hP
  have c1 : Steps p.tables e below (s₁.setTop (entryFrame m #[.ref x, .ref y] 3)) (s₁.setTop (mkF m 2 #[.val (.ref x), .val (.ref y), .unset] [.ref y, .ref x])) := Steps.trans (entry rfl) (by
    show Steps p.tables e below (s₁.setTop (mkF m 0 #[.val (.ref x), .val (.ref y), .unset] [])) _
    refine XS.aloadN X0.here hexec rfl (hb hbytes d0) rfl rfl ?_
    refine XS.aloadN X0.here hexec rfl (hb hbytes d1) rfl rfl ?_
    exact Steps.refl _)
  by_cases hxy : x = y
  · have c2 : Steps p.tables e below (s₁.setTop (entryFrame m #[.ref x, .ref y] 3)) (s₁.setTop (mkF m 6 #[.val (.ref x), .val (.ref y), .unset] [.int 1])) := c1.trans (by
      refine acmpNo X0.here hexec rfl (hb hbytes d2) rfl rfl rfl (by simp [acmp, hxy]) ?_
      refine iconstV X0.here hexec rfl 1 (hb hbytes d5) (by decide) ?_
      exact Steps.refl _)
    subst hxy
    have ec : cd = cd' := by
      obtain ⟨D, fd, a1, a2, a3⟩ := hx.2.2.1
      obtain ⟨D', fd', b1, b2, b3⟩ := hy.2.2.1
      cases a1.symm.trans b1
      obtain ⟨q1, q2, q3, q4⟩ := a2.1
      obtain ⟨r1, r2, r3, r4⟩ := b2.1
      cases q4.symm.trans r4
      cases a3.symm.trans b3; rfl
    have et : t = t' := by
      obtain ⟨D, fd, a1, a2, a3⟩ := hx.2.1
      obtain ⟨D', fd', b1, b2, b3⟩ := hy.2.1
      cases a1.symm.trans b1
      obtain ⟨q1, q2, q3, q4⟩ := a2.1
      obtain ⟨r1, r2, r3, r4⟩ := b2.1
      cases q4.symm.trans r4
      cases a3.symm.trans b3; rfl
    subst ec et
    have ev : V = V' := by cases hx.2.2.2.1.1.symm.trans hy.2.2.2.1.1; rfl
    subst ev
    have hs : SameT n f k g := (Cod.eqv hx.2.2.2.2.1 hy.2.2.2.2.1 hx.2.2.2.2.2 hy.2.2.2.2.2).mp ⟨rfl, fun _ _ => rfl⟩
    exact ⟨s₁, some (.int 1), _, _, _, X0, rfl, rfl, rfl, (fun h => by cases h), ⟨1, rfl, hh0, Or.inl ⟨rfl, hs⟩⟩, fun fs hl => c2.trans (X0.ireturnOut hexec hret rfl (Or.inr (Or.inl rfl)) (hb hbytes d6) hl)⟩
  · have c2 : Steps p.tables e below (s₁.setTop (entryFrame m #[.ref x, .ref y] 3)) (s₁.setTop (mkF m 8 #[.val (.ref x), .val (.ref y), .unset] [.ref y])) := c1.trans (by
      refine acmpYes X0.here hexec rfl (pc0 := 2) rfl (hb hbytes d2) rfl rfl rfl (by simp [acmp, hxy]) (by decide) rfl ?_
      refine XS.aloadN X0.here hexec rfl (hb hbytes d7) rfl rfl ?_
      exact Steps.refl _)
    obtain ⟨T3, X3, q3, st3⟩ := cinst X0 hexec hown (wk W (.classLink "java/lang/String" 10 "java/lang/String")) (hy.mv X0.warmed.alike hh0).1 (g := (mkF m 8 #[.val (.ref x), .val (.ref y), .unset] [.ref y])) rfl (rest := []) rfl (hb hbytes d8)
    have hh3 := q3.trans hh0
    have c4 : Steps p.tables e below (s₁.setTop (entryFrame m #[.ref x, .ref y] 3)) (T3.setTop (mkF m 15 #[.val (.ref x), .val (.ref y), .unset] [.ref y])) := (c2.trans (st3 _ (Steps.refl _))).trans (by
      refine XS.ifNo X3.here hexec rfl (hb hbytes d11) rfl (i0_eq_f (by decide)) ?_
      refine XS.aloadN X3.here hexec rfl (hb hbytes d14) rfl rfl ?_
      exact Steps.refl _)
    obtain ⟨T5, X5, q5, st5⟩ := cself X3 hexec hown (wk W (.classLink "java/lang/String" 10 "java/lang/String")) (hy.mv X3.warmed.alike hh3).1 (g := (mkF m 15 #[.val (.ref x), .val (.ref y), .unset] [.ref y])) rfl (rest := []) rfl (hb hbytes d15)
    have hh5 := q5.trans hh3
    have c6 : Steps p.tables e below (s₁.setTop (entryFrame m #[.ref x, .ref y] 3)) (T5.setTop (mkF m 19 #[.val (.ref x), .val (.ref y), .val (.ref y)] [])) := (c4.trans (st5 _ (Steps.refl _))).trans (by
      refine XS.astoreN X5.here hexec rfl (hb hbytes d18) rfl rfl rfl ?_
      exact Steps.refl _)
    obtain ⟨T7, X7, q7, st7⟩ := X5.sget hexec hown (wk W (.fieldLink "java/lang/String" 38 "java/lang/String" "COMPACT_STRINGS" "Z")) s1 (fun _ _ h => by rw [hh5]; exact h) (g := (mkF m 19 #[.val (.ref x), .val (.ref y), .val (.ref y)] [])) rfl (hb hbytes d19)
    have hh7 := q7.trans hh5
    have c8 : Steps p.tables e below (s₁.setTop (entryFrame m #[.ref x, .ref y] 3)) (T7.setTop (mkF m 26 #[.val (.ref x), .val (.ref y), .val (.ref y)] [.ref x])) := (c6.trans (st7 _ (Steps.refl _))).trans (by
      refine XS.ifNo X7.here hexec rfl (hb hbytes d22) rfl (i0_eq_f hz) ?_
      refine XS.aloadN X7.here hexec rfl (hb hbytes d25) rfl rfl ?_
      exact Steps.refl _)
    obtain ⟨T9, X9, q9, st9⟩ := X7.hget hexec hown (wk W (.fieldLink "java/lang/String" 15 "java/lang/String" "coder" "B")) (hx.mv X7.warmed.alike hh7).2.2.1 (g := (mkF m 26 #[.val (.ref x), .val (.ref y), .val (.ref y)] [.ref x])) rfl (rest := []) rfl (hb hbytes d26)
    have hh9 := q9.trans hh7
    have c10 : Steps p.tables e below (s₁.setTop (entryFrame m #[.ref x, .ref y] 3)) (T9.setTop (mkF m 30 #[.val (.ref x), .val (.ref y), .val (.ref y)] [.ref y, .int cd])) := (c8.trans (st9 _ (Steps.refl _))).trans (by
      refine XS.aloadN X9.here hexec rfl (hb hbytes d29) rfl rfl ?_
      exact Steps.refl _)
    obtain ⟨T11, X11, q11, st11⟩ := X9.hget hexec hown (wk W (.fieldLink "java/lang/String" 15 "java/lang/String" "coder" "B")) (hy.mv X9.warmed.alike hh9).2.2.1 (g := (mkF m 30 #[.val (.ref x), .val (.ref y), .val (.ref y)] [.ref y, .int cd])) rfl (rest := [.int cd]) rfl (hb hbytes d30)
    have hh11 := q11.trans hh9
    have c12 : Steps p.tables e below (s₁.setTop (entryFrame m #[.ref x, .ref y] 3)) (T11.setTop (mkF m 33 #[.val (.ref x), .val (.ref y), .val (.ref y)] [.int cd', .int cd])) := c10.trans (st11 _ (Steps.refl _))
    by_cases hcd : cd = cd'
    · subst hcd
      have c13 : Steps p.tables e below (s₁.setTop (entryFrame m #[.ref x, .ref y] 3)) (T11.setTop (mkF m 37 #[.val (.ref x), .val (.ref y), .val (.ref y)] [.ref x])) := c12.trans (by
        refine XS.icmpNo X11.here hexec rfl (hb hbytes d33) rfl (ii_ne_f rfl) ?_
        refine XS.aloadN X11.here hexec rfl (hb hbytes d36) rfl rfl ?_
        exact Steps.refl _)
      obtain ⟨T14, X14, q14, st14⟩ := X11.hget hexec hown (wk W (.fieldLink "java/lang/String" 9 "java/lang/String" "value" "[B")) (hx.mv X11.warmed.alike hh11).2.1 (g := (mkF m 37 #[.val (.ref x), .val (.ref y), .val (.ref y)] [.ref x])) rfl (rest := []) rfl (hb hbytes d37)
      have hh14 := q14.trans hh11
      have c15 : Steps p.tables e below (s₁.setTop (entryFrame m #[.ref x, .ref y] 3)) (T14.setTop (mkF m 41 #[.val (.ref x), .val (.ref y), .val (.ref y)] [.ref y, .ref t])) := (c13.trans (st14 _ (Steps.refl _))).trans (by
        refine XS.aloadN X14.here hexec rfl (hb hbytes d40) rfl rfl ?_
        exact Steps.refl _)
      obtain ⟨T16, X16, q16, st16⟩ := X14.hget hexec hown (wk W (.fieldLink "java/lang/String" 9 "java/lang/String" "value" "[B")) (hy.mv X14.warmed.alike hh14).2.1 (g := (mkF m 41 #[.val (.ref x), .val (.ref y), .val (.ref y)] [.ref y, .ref t])) rfl (rest := [.ref t]) rfl (hb hbytes d41)
      have hh16 := q16.trans hh14
      have c17 : Steps p.tables e below (s₁.setTop (entryFrame m #[.ref x, .ref y] 3)) (T16.setTop (mkF m 44 #[.val (.ref x), .val (.ref y), .val (.ref y)] [.ref t', .ref t])) := c15.trans (st16 _ (Steps.refl _))
      obtain ⟨v18, T18, X18, E18, g18⟩ := X16.callS hexec (LEq.law l t V t' V') hown (wks W (staticW "java/lang/String" 541 LEq.yN)) (wk W LEq.tab) (W := 0) (Nat.le_of_ble_eq_true rfl) (Nat.le_of_ble_eq_true rfl) (Nat.le_refl _) (Nat.le_refl _) (g := (mkF m 44 #[.val (.ref x), .val (.ref y), .val (.ref y)] [.ref t', .ref t])) rfl (by rw [hml]; rfl) c17 (argsL := [.ref t, .ref t']) (rest := []) rfl rfl (by show 2 * 0 + 0 ≤ _; decide) (hb hbytes d44) (⟨rfl, hx.2.2.2.1.mv X16.warmed.alike hh16, hx.2.2.2.2.1.ty, hy.2.2.2.1.mv X16.warmed.alike hh16, hy.2.2.2.2.1.ty⟩)
      obtain ⟨v, rfl, q18, hv⟩ := E18
      have iff := Cod.eqv hx.2.2.2.2.1 hy.2.2.2.2.1 hx.2.2.2.2.2 hy.2.2.2.2.2
      rcases hv with ⟨rfl, he⟩ | ⟨rfl, he⟩
      · have c19 : Steps p.tables e below (s₁.setTop (entryFrame m #[.ref x, .ref y] 3)) (T18.setTop (mkF m 55 #[.val (.ref x), .val (.ref y), .val (.ref y)] [.int 1])) := Steps.trans g18 (by
          refine XS.ifNo X18.here hexec rfl (hb hbytes d47) rfl (i0_eq_f (by decide)) ?_
          refine iconstV X18.here hexec rfl 1 (hb hbytes d50) (by decide) ?_
          refine XS.goto X18.here hexec rfl (pc0 := 51) rfl (hb hbytes d51) (by decide) rfl ?_
          exact Steps.refl _)
        exact ⟨T18, some (.int 1), _, _, _, X18, rfl, rfl, rfl, (fun h => by cases h), ⟨1, rfl, q18.trans hh16, Or.inl ⟨rfl, iff.mp he⟩⟩, fun fs hl => c19.trans (X18.ireturnOut hexec hret rfl (Or.inr (Or.inl rfl)) (hb hbytes d55) hl)⟩
      · have c19 : Steps p.tables e below (s₁.setTop (entryFrame m #[.ref x, .ref y] 3)) (T18.setTop (mkF m 55 #[.val (.ref x), .val (.ref y), .val (.ref y)] [.int 0])) := Steps.trans g18 (by
          refine XS.ifYes X18.here hexec rfl (pc0 := 47) rfl (hb hbytes d47) rfl (i0_eq_t rfl) (by decide) rfl ?_
          refine iconstV X18.here hexec rfl 0 (hb hbytes d54) (by decide) ?_
          exact Steps.refl _)
        exact ⟨T18, some (.int 0), _, _, _, X18, rfl, rfl, rfl, (fun h => by cases h), ⟨0, rfl, q18.trans hh16, Or.inr ⟨rfl, fun q => he (iff.mpr q)⟩⟩, fun fs hl => c19.trans (X18.ireturnOut hexec hret rfl (Or.inr (Or.inl rfl)) (hb hbytes d55) hl)⟩
    · have c13 : Steps p.tables e below (s₁.setTop (entryFrame m #[.ref x, .ref y] 3)) (T11.setTop (mkF m 55 #[.val (.ref x), .val (.ref y), .val (.ref y)] [.int 0])) := c12.trans (by
        refine XS.icmpYes X11.here hexec rfl (pc0 := 33) rfl (hb hbytes d33) rfl (ii_ne_t hcd) (by decide) rfl ?_
        refine iconstV X11.here hexec rfl 0 (hb hbytes d54) (by decide) ?_
        exact Steps.refl _)
      exact ⟨T11, some (.int 0), _, _, _, X11, rfl, rfl, rfl, (fun h => by cases h), ⟨0, rfl, hh11, Or.inr ⟨rfl, Cod.dif hx.2.2.2.2.1 hy.2.2.2.2.1 hcd⟩⟩, fun fs hl => c13.trans (X11.ireturnOut hexec hret rfl (Or.inr (Or.inl rfl)) (hb hbytes d55) hl)⟩
theorem pays {l : Launch} {R : Room} {p : Program} {e : Env} {below : List Frame} {s : State} {sargs : Array Value} {len W : Nat} (x t : Addr) (V : Cell) (cd : Int32) (n : Nat) (f : Nat → Int32) (y t' : Addr) (V' : Cell) (cd' : Int32) (k : Nat) (g : Nat → Int32) (z : Int32) (htab : tab.before sargs s = true) (hfr : 2 ≤ R.frames) (hlo : W + 28 ≤ R.locals) :
    Back l R p e below s sargs yN len W (fun A₁ a₁ => A₁.cells + 0 ≤ R.cells ∧ A₁.slots + 0 ≤ R.slots ∧ P x t V cd n f y t' V' cd' k g z a₁ A₁.U) (fun A₁ _ v₁ B₁ => Says01 (SameT n f k g) v₁ A₁.U B₁.U ∧ B₁.locs = A₁.locs ++ [] ∧ B₁.cells = A₁.cells + 0 ∧ B₁.slots = A₁.slots + 0) :=
  (law l x t V cd n f y t' V' cd' k g z).pays htab hfr (by omega)
end SEq
end StrChars
namespace StrChars.Road
open Jvm Sem ClassFile Op Lib Jvm.Stand Jvm.Free Jvm.Free.XT
open Jvm.Lib.Cold (StaticIs)
/-- the words of String.equals(Object) -/
abbrev wordsEq : List Jvm.Cond := [.code SEq.yN SEq.yB 3 (some .boolean), .initialized ST, .classLink ST 10 ST, .fieldLink ST 38 ST "COMPACT_STRINGS" "Z", .fieldLink ST 15 ST "coder" "B", .fieldLink ST 9 ST "value" "[B", .methodLink ST 541 LEq.yN, .static LEq.yN, .code LEq.yN LEq.yB 3 (some .boolean), .initialized "java/lang/StringLatin1"]
theorem tabEq_of {a : Array Value} {s : State} (h : ∀ w ∈ wordsEq, w.before a s = true) : SEq.tab.before a s = true := by
  have hl : LEq.tab.before a s = true := unparts (wk h (.code LEq.yN LEq.yB 3 (some .boolean))) (wks h (.initialized LEq.yN.cls :: LEq.site))
  have q := consq hl h
  exact unparts (wk q (.code SEq.yN SEq.yB 3 (some .boolean))) (wks q (.initialized SEq.yN.cls :: SEq.site))
theorem movedEq {Z s : State} {a0 args : Array Value} (hZ : Z.Warmed39 s.vm) (hw : ∀ d ∈ wordsEq, d.before a0 Z = true) : ∀ d ∈ wordsEq, d.before args s = true := fun d hd => by
  have t : ∀ d ∈ wordsEq, (d.onTables && d.keepsFace) = true := by decide +kernel
  exact RoadKit.mv hZ (hw d hd) (t d hd)
/-- the road's facts of a String, as the laws ask it -/
theorem txt_of {Z U : State} {a0 : Array Value} {kI : Nat} (wi : (Jvm.Cond.instantiable ST kI).before a0 Z = true) (al : Z.vm.Alike U.vm) {x t : Addr} {kb : ClassId} {cs : List Int32} {cd N2 : Int32} {vs : List Value} (E : RoadKit.Exa Z U.heap x ST) (V : RoadKit.Fld Z U.heap x ST "value" "[B" (.ref t)) (C : RoadKit.Fld Z U.heap x ST "coder" "B" (.int cd)) (K : RoadKit.Arv Z U.heap t kb .byte N2 vs (.int 0)) (hc : CodA cs cd N2 vs) (hb : ∀ c ∈ cs, ¬ c < 0 ∧ ¬ (65535 : Int32) < c) (l2 : cs.length ≤ 4000) :
    ∃ A, Txt x t A cd cs.length (fun j => cs.getD j 0) U := by
  obtain ⟨A, K1, K2, K3, K4, K5, K6⟩ := K
  have hcod := hc.cod (by omega) K3 K5
  obtain ⟨D, fV, fC, hB, F1, F2, g1, g2, -, -⟩ := strObj wi al E V C
  exact ⟨A, ⟨_, hB.2.2.1, D, hB.1, rfl, by cases q : D.vm <;> first | rfl | exact absurd q (hB.2.1.2 _)⟩, Has.of hB F1 g1, Has.of hB F2 g2, ⟨K1.1, State.isArrayOf_alike al K1.2.1, K1.2.2, by rcases hcod with ⟨-, q, -⟩ | ⟨-, q, -⟩ <;> omega⟩, hcod, fun j hj => by
    have e : cs.getD j 0 = cs[j] := by simp [List.getD_eq_getElem?_getD, hj]
    show ¬ cs.getD j 0 < 0 ∧ ¬ 65535 < cs.getD j 0
    rw [e]; exact hb _ (List.getElem_mem _)⟩
theorem same_list (cs ds : List Int32) : SameT cs.length (fun j => cs.getD j 0) ds.length (fun j => ds.getD j 0) ↔ cs = ds := by
  constructor
  · rintro ⟨e, q⟩
    refine List.ext_getElem e fun j h1 h2 => ?_
    have := q j h1
    simpa [List.getD_eq_getElem?_getD, h1, h2] using this
  · rintro rfl
    exact ⟨rfl, fun _ _ => rfl⟩
/-- **equals(Object) OF TWO SUCH STRINGS**: 1 just where the chars are the same -/
theorem eqW {p : Program} {l : Launch} {e : Env} {R : Room} {s : State} {args : Array Value} {below : List Frame} {len W : Nat} {Z : State} {a0 : Array Value} {h : Heap} (hZ : Z.Warmed39 s.vm) (hw : ∀ d ∈ wordsEq, d.before a0 Z = true) {kI : Nat} (wi : (Jvm.Cond.instantiable ST kI).before a0 Z = true)
    {x t : Addr} {kb : ClassId} {cs : List Int32} {cd N2 : Int32} {vs : List Value} (E : RoadKit.Exa Z h x ST) (V : RoadKit.Fld Z h x ST "value" "[B" (.ref t)) (C : RoadKit.Fld Z h x ST "coder" "B" (.int cd)) (K : RoadKit.Arv Z h t kb .byte N2 vs (.int 0)) (hc : CodA cs cd N2 vs) (hb : ∀ c ∈ cs, ¬ c < 0 ∧ ¬ (65535 : Int32) < c) (l2 : cs.length ≤ 4000)
    {y t' : Addr} {kb' : ClassId} {ds : List Int32} {cd' N2' : Int32} {vs' : List Value} (E' : RoadKit.Exa Z h y ST) (V' : RoadKit.Fld Z h y ST "value" "[B" (.ref t')) (C' : RoadKit.Fld Z h y ST "coder" "B" (.int cd')) (K' : RoadKit.Arv Z h t' kb' .byte N2' vs' (.int 0)) (hc' : CodA ds cd' N2' vs') (hb' : ∀ c ∈ ds, ¬ c < 0 ∧ ¬ (65535 : Int32) < c) (l2' : ds.length ≤ 4000)
    {z : Int32} (S : RoadKit.Sta Z h ST "COMPACT_STRINGS" "Z" (.int z)) (hz : ¬ z = 0) (hfr : 2 ≤ R.frames) (hlo : W + 28 ≤ R.locals) :
    Back l R p e below s args (⟨"java/lang/String", "equals", "(Ljava/lang/Object;)Z"⟩ : MethodName) len W (fun P a => a = #[.ref x, .ref y] ∧ P.U.heap = h ∧ P.cells + 0 ≤ R.cells ∧ P.slots + 0 ≤ R.slots)
      (fun P _ v B => ∃ L, (((v = some (.int 1) ∧ cs = ds) ∨ (v = some (.int 0) ∧ ¬ cs = ds)) ∧ L = [] ∧ B.U.heap = h) ∧ B.locs = P.locs ++ L ∧ B.cells = P.cells + 0 ∧ B.slots = P.slots + 0) := by
  intro m meth c P g ig mk a X hg hsize hdg hW hn hp'
  obtain ⟨rfl, rfl, r1, r2⟩ := hp'
  have al : Z.vm.Alike P.U.vm := hZ.alike.trans X.warmed.alike
  obtain ⟨A, hx⟩ := txt_of wi al E V C K hc hb l2
  obtain ⟨A', hy⟩ := txt_of wi al E' V' C' K' hc' hb' l2'
  obtain ⟨v, B, X', ⟨⟨w, hv, hh, hq⟩, hl, hk, hs⟩, st⟩ := SEq.pays x t A cd cs.length (fun j => cs.getD j 0) y t' A' cd' ds.length (fun j => ds.getD j 0) z (tabEq_of (movedEq hZ hw)) hfr hlo m meth c P g ig mk _ X hg hsize hdg hW hn ⟨r1, r2, rfl, hx, hy, sta_is al S, hz⟩
  refine ⟨v, B, X', ⟨[], ⟨?_, rfl, hh⟩, hl, hk, hs⟩, st⟩
  rcases hq with ⟨rfl, q⟩ | ⟨rfl, q⟩
  · exact Or.inl ⟨hv, (same_list cs ds).mp q⟩
  · exact Or.inr ⟨hv, fun e => q ((same_list cs ds).mpr e)⟩
end StrChars.Road
namespace StrChars.Road
open Jvm Sem ClassFile Op Lib Jvm.Stand Jvm.Free Jvm.Free.XT
open Jvm.Lib.Cold (StaticIs)
/-- what backV says of its String, as the contracts of this text ask it: cs's low bytes, coder 0 -/
theorem codOf {cs : List Int32} {n : Nat} (hn : cs.length = n) (hb : ∀ c ∈ cs, ¬ 255 < c) : CodA cs 0 (Int32.ofNat n) ((cs.map lo8).map Value.int) := Or.inl ⟨rfl, by rw [hn], by simp [List.map_map, Function.comp_def], hb⟩
end StrChars.Road
end Jvm.Pilot.@@N@@
namespace Jvm.Pilot.@@N@@
open Jvm Jvm.ClassFile Sem Op Lib Jvm.Free Jvm.Stand Jvm.LawKit Jvm.RoadKit Bundle Jvm.Pilot.@@N@@.Jvm.D
-- own prelude: a walk as a chain of goals Go (from here the method comes to its end, and Fin holds there)
def PT (W : Bool) (EL : List (String × Nat)) (Z : State) (a0 : Array Value) (own : String) (p : Program) (l : Launch) (e : Env) (R : Room) (s : State) (m : MethodId) (args : Array Value) (below : List Frame) (meth : Method) (c : Code) (T : State) (h : Heap) (cells slots : Nat) : Prop :=
  ∃ (vm0 : Vm) (k0 : Nat) (locs : List Loc), (W = false → vm0 = s.vm) ∧ Stand p l e R (s.setVm vm0) m args below meth c T locs cells slots ∧ T.heap = h ∧ p.tables.exec = Jvm.exec ∧ Z.Warmed39 vm0 ∧ vm0.findClass own = some m.cls ∧ s.Since vm0 k0 ∧ k0 ≤ h.size ∧ EW Z a0 EL ∧ CHr Z EL s.vm s.heap vm0 h ∧ Fr Z.heap.size locs ∧ Old Z Z.heap.size h
def Go (W : Bool) (EL : List (String × Nat)) (Z : State) (a0 : Array Value) (own : String) (p : Program) (l : Launch) (e : Env) (R : Room) (s : State) (m : MethodId) (args : Array Value) (below : List Frame) (meth : Method) (c : Code) (F : Outcome → State → Prop) (h : Heap) (cells slots : Nat) (g : JFrame) : Prop :=
  ∀ T, PT W EL Z a0 own p l e R s m args below meth c T h cells slots → ∃ t o, Steps p.tables e below (T.setTop g) t ∧ t.status = .running ∧ Ended t below o ∧ F o t
def Fend (W : Bool) (EL : List (String × Nat)) (Z : State) (s : State) (h0 : Heap) (ws : List Addr) (Q : Option Value → Heap → Prop) (dc ds : Nat) (o : Outcome) (t : State) : Prop :=
  ∃ v L, o = .returned v ∧ (Q v t.heap ∧ Fr Z.heap.size L ∧ Keep h0 t.heap ws) ∧ (W = true → CHr Z EL s.vm s.heap t.vm t.heap ∧ ReturnedEndW s o t L dc ds) ∧ (W = false → FrameEnd s o t L dc ds)
def Con (W : Bool) (EL : List (String × Nat)) (l : Launch) (Z : State) (y : MethodName) (bytes : ByteArray) (maxL : Nat) (ret : Option FieldType) (wl : List Jvm.Cond) (rm : Room) (as' : Array Value) (h : Heap) (ws : List Addr) (Q : Option Value → Heap → Prop) : Prop :=
  MetFree l y (head1 (Jvm.Cond.code y bytes maxL ret :: wl) rm) (fun a U => a = as' ∧ Z.Warmed39 U.vm ∧ U.heap = h ∧ (W = true → CHv Z EL U.vm h)) (fun _ _ _ _ _ => True) (fun _ U o U' => Fend W EL Z U h ws Q rm.cells rm.slots o U')
def rvl (Q : Value → Heap → Prop) (v : Option Value) (h : Heap) : Prop := ∃ x, v = some x ∧ Q x h
def rno (Q : Heap → Prop) (v : Option Value) (h : Heap) : Prop := v = none ∧ Q h
def Pay (l : Launch) (R : Room) (p : Program) (e : Env) (below : List Frame) (Z : State) (y : MethodName) (Wd : Nat) (as' : Array Value) (h : Heap) (dc ds : Nat) (ws : List Addr) (Q : Option Value → Heap → Prop) : Prop :=
  ∀ (s : State) (args : Array Value), Z.Warmed39 s.vm → Back l R p e below s args y 3 Wd (fun A a => a = as' ∧ A.U.heap = h ∧ A.cells + dc ≤ R.cells ∧ A.slots + ds ≤ R.slots) (fun A _ v B => ∃ L, (Q v B.U.heap ∧ Fr Z.heap.size L ∧ Keep h B.U.heap ws) ∧ B.locs = A.locs ++ L ∧ B.cells = A.cells + dc ∧ B.slots = A.slots + ds)
def PayW (EL : List (String × Nat)) (l : Launch) (R : Room) (p : Program) (e : Env) (below : List Frame) (Z : State) (y : MethodName) (Wd : Nat) (as' : Array Value) (h : Heap) (dc ds : Nat) (ws : List Addr) (Q : Option Value → Heap → Prop) : Prop :=
  ∀ (s : State) (vm0 : Vm) (args : Array Value), Z.Warmed39 vm0 → CHv Z EL vm0 h → BackS l R p e below (s.setVm vm0) args y 3 Wd (fun A a => a = as' ∧ A.U.heap = h ∧ A.cells + dc ≤ R.cells ∧ A.slots + ds ≤ R.slots) (fun A _ v B => ∃ L, (Q v B.U.heap ∧ Fr Z.heap.size L ∧ Keep h B.U.heap ws) ∧ B.locs = A.locs ++ L ∧ B.cells = A.cells + dc ∧ B.slots = A.slots + ds ∧ CHr Z EL vm0 h B.U.vm B.U.heap)
section Own
variable {W : Bool} {EL : List (String × Nat)} {Z : State} {a0 : Array Value} {own : String} {p : Program} {l : Launch} {e : Env} {R : Room} {s : State} {m : MethodId} {args : Array Value} {below : List Frame} {meth : Method} {c : Code} {F : Outcome → State → Prop} {h : Heap} {cells slots cells' slots' : Nat} {pc pc' : Nat} {ls ls' : Array Slot} {st : List Value}
theorem safe_nil {vm : Vm} {x : Addr} : Safe Z [] vm h x := fun ⟨_, hp, _⟩ => nomatch hp
theorem chv_nil {vm : Vm} : CHv Z [] vm h := fun _ hp => nomatch hp
theorem con_of {y : MethodName} {bytes : ByteArray} {maxL : Nat} {ret : Option FieldType} {wl : List Jvm.Cond} {rm : Room} {as' : Array Value} {ws : List Addr} {Q : Option Value → Heap → Prop} (hname : plainFor y = true) (hWE : W = false → EL = []) (hEL : EW Z a0 EL) (hO : Old Z Z.heap.size h) (hef : ∀ m, entryFrame m as' maxL = mkF m 0 ls [])
    (body : ∀ (p : Program) (e : Env) (s : State) (m : MethodId) (below : List Frame) (meth : Method) (c : Code), c.code = bytes → c.maxLocals = maxL → meth.sig.returnType = ret → meth.locks = false → meth.name = y.name → Go W EL Z a0 y.cls p l e rm s m as' below meth c (Fend W EL Z s h ws Q rm.cells rm.slots) h 0 0 (mkF m 0 ls [])) :
    Con W EL l Z y bytes maxL ret wl rm as' h ws Q := by
  refine MetFree.of_bodySF hname hisR ?_
  intro p e s m args below meth c s₁ Bd hml hP _
  obtain ⟨rfl, hZ, hh, hC⟩ := hP
  have X0 : Stand p l e rm s m args below meth c s₁ [] 0 0 := Stand.of_body Bd
  have e0 : s₁.heap = h := by rw [← hh, Bd.state]; rfl
  have hown : s.vm.findClass y.cls = some m.cls := findClass_of_methodNamed Bd.named
  have hnm := (name_of_methodNamed Bd.named Bd.method).1
  have hcv : CHv Z EL s.vm h := by
    cases W
    · rw [hWE rfl]; exact chv_nil
    · exact hC rfl
  have hcr : CHr Z EL s.vm s.heap s.vm h := by rw [hh]; exact CHr.refl hcv
  obtain ⟨t, o, h1, h2⟩ := body p e s m below meth c Bd.bytes hml Bd.returns Bd.notSynchronized hnm s₁ ⟨s.vm, h.size, [], fun _ => rfl, X0, e0, Bd.exec, hZ, hown, (State.WarmedH.refl s).since _, Nat.le_refl _, hEL, hcr, Fr.nil _, hO⟩
  exact ⟨t, o, castTop (hef m) h1, h2⟩
theorem pay_of {y : MethodName} {bytes : ByteArray} {maxL : Nat} {ret : Option FieldType} {rm : Room} {as' : Array Value} {ws : List Addr} {Q : Option Value → Heap → Prop} {Wd : Nat} (hM : Con false [] l Z y bytes maxL ret [] rm as' h ws Q) (wc : (Jvm.Cond.code y bytes maxL ret).before a0 Z = true) (wz : (Jvm.Cond.initialized y.cls).before a0 Z = true) (hf : rm.frames + 1 ≤ R.frames) (hl : Wd + (maxL + 11) + rm.locals ≤ R.locals) :
    Pay l R p e below Z y Wd as' h rm.cells rm.slots ws Q := by
  intro s args hZ
  refine backOf (Q := fun v h' L => Q v h' ∧ Fr Z.heap.size L ∧ Keep h h' ws) ?_ hZ wc wz hf hl
  intro p e h1 h2 h3 s m args below h4 h5 h6 h7
  obtain ⟨n, o, q1, q2, q3, v, L, rfl, hq, -, hF⟩ := hM p e h1 h2 h3 s m args below h4 h5 ⟨h6.1, h6.2.1, h6.2.2, fun q => nomatch q⟩ h7
  exact ⟨n, _, q1, q2, q3, v, L, rfl, hq, hF rfl⟩
theorem payW_of {y : MethodName} {bytes : ByteArray} {maxL : Nat} {ret : Option FieldType} {rm : Room} {as' : Array Value} {ws : List Addr} {Q : Option Value → Heap → Prop} {Wd : Nat} (hM : Con true EL l Z y bytes maxL ret [] rm as' h ws Q) (wc : (Jvm.Cond.code y bytes maxL ret).before a0 Z = true) (wz : (Jvm.Cond.initialized y.cls).before a0 Z = true) (hf : rm.frames + 1 ≤ R.frames) (hl : Wd + (maxL + 11) + rm.locals ≤ R.locals) (hEL : EW Z a0 EL) :
    PayW EL l R p e below Z y Wd as' h rm.cells rm.slots ws Q := by
  intro s vm0 args hZ H
  refine backOfSH (Q := fun v h' L => Q v h' ∧ Fr Z.heap.size L ∧ Keep h h' ws) ?_ hZ wc wz hf hl hEL H
  intro p e h1 h2 h3 s m args below h4 h5 h6 h7
  obtain ⟨n, o, q1, q2, q3, v, L, rfl, hq, hC, -⟩ := hM p e h1 h2 h3 s m args below h4 h5 ⟨h6.1, h6.2.1, h6.2.2.1, fun _ => h6.2.2.2⟩ h7
  exact ⟨n, _, q1, q2, q3, v, L, rfl, hq, (hC rfl).1, (hC rfl).2⟩
theorem go_old {g0 : JFrame} (k : Old Z Z.heap.size h → Go W EL Z a0 own p l e R s m args below meth c F h cells slots (g0)) : Go W EL Z a0 own p l e R s m args below meth c F h cells slots (g0) := by
  intro T P
  exact k P.choose_spec.choose_spec.choose_spec.2.2.2.2.2.2.2.2.2.2.2 T P
theorem go_pure {g g' : JFrame} (stp : ∀ T : State, At T m c below → p.tables.exec = Jvm.exec → ∀ target, Steps p.tables e below (T.setTop g') target → Steps p.tables e below (T.setTop g) target) (k : Go W EL Z a0 own p l e R s m args below meth c F h cells slots (g')) : Go W EL Z a0 own p l e R s m args below meth c F h cells slots (g) := by
  intro T P
  obtain ⟨t, o, h1, h2⟩ := k T P
  obtain ⟨vm0, k0, locs, -, X, -, hx, -⟩ := P
  exact ⟨t, o, stp T X.here hx _ h1, h2⟩
theorem go_iconst {i : Int} {v : Int32} (hd : decode c.code pc = .ok (.iconst i, 1)) (hp : pc + 1 = pc') (hv : Int32.ofInt i = v) (k : Go W EL Z a0 own p l e R s m args below meth c F h cells slots (mkF m pc' ls (.int v :: st))) : Go W EL Z a0 own p l e R s m args below meth c F h cells slots (mkF m pc ls st) := by
  subst hp hv
  exact go_pure (fun T ha hx target hr => XS.iconst ha hx rfl hd hr) k
theorem go_bipush {i : Int} {v : Int32} (hd : decode c.code pc = .ok (.bipush i, 2)) (hp : pc + 2 = pc') (hv : (Int8.ofInt i).toInt32 = v) (k : Go W EL Z a0 own p l e R s m args below meth c F h cells slots (mkF m pc' ls (.int v :: st))) : Go W EL Z a0 own p l e R s m args below meth c F h cells slots (mkF m pc ls st) := by
  subst hp hv
  exact go_pure (fun T ha hx target hr => XS.bipush ha hx rfl hd hr) k
theorem go_sipush {i : Int} {v : Int32} (hd : decode c.code pc = .ok (.sipush i, 3)) (hp : pc + 3 = pc') (hv : (Int16.ofInt i).toInt32 = v) (k : Go W EL Z a0 own p l e R s m args below meth c F h cells slots (mkF m pc' ls (.int v :: st))) : Go W EL Z a0 own p l e R s m args below meth c F h cells slots (mkF m pc ls st) := by
  subst hp hv
  exact go_pure (fun T ha hx target hr => XS.sipush ha hx rfl hd hr) k
theorem go_aconst_null  (hd : decode c.code pc = .ok (.aconst_null, 1)) (hp : pc + 1 = pc')  (k : Go W EL Z a0 own p l e R s m args below meth c F h cells slots (mkF m pc' ls (.null :: st))) : Go W EL Z a0 own p l e R s m args below meth c F h cells slots (mkF m pc ls (st)) := by
  subst hp
  exact go_pure (fun T ha hx target hr => XS.aconstNull ha hx rfl hd hr) k
theorem go_aload_n {i : Fin 4} {v : Value} (hd : decode c.code pc = .ok (.aload_n i, 1)) (hp : pc + 1 = pc') (hl : ls[i.val]? = some (.val v)) (hv : v.isRef = true) (k : Go W EL Z a0 own p l e R s m args below meth c F h cells slots (mkF m pc' ls (v :: st))) : Go W EL Z a0 own p l e R s m args below meth c F h cells slots (mkF m pc ls (st)) := by
  subst hp
  exact go_pure (fun T ha hx target hr => XS.aloadN ha hx rfl hd hl hv hr) k
theorem go_aload {i : Nat} {v : Value} (hd : decode c.code pc = .ok (.aload i, 2)) (hp : pc + 2 = pc') (hl : ls[i]? = some (.val v)) (hv : v.isRef = true) (k : Go W EL Z a0 own p l e R s m args below meth c F h cells slots (mkF m pc' ls (v :: st))) : Go W EL Z a0 own p l e R s m args below meth c F h cells slots (mkF m pc ls (st)) := by
  subst hp
  exact go_pure (fun T ha hx target hr => XS.aload ha hx rfl hd hl hv hr) k
theorem go_iload_n {i : Fin 4} {v : Int32} (hd : decode c.code pc = .ok (.iload_n i, 1)) (hp : pc + 1 = pc') (hl : ls[i.val]? = some (.val (.int v))) (k : Go W EL Z a0 own p l e R s m args below meth c F h cells slots (mkF m pc' ls (.int v :: st))) : Go W EL Z a0 own p l e R s m args below meth c F h cells slots (mkF m pc ls (st)) := by
  subst hp
  exact go_pure (fun T ha hx target hr => XS.iloadN ha hx rfl hd hl hr) k
theorem go_iload {i : Nat} {v : Int32} (hd : decode c.code pc = .ok (.iload i, 2)) (hp : pc + 2 = pc') (hl : ls[i]? = some (.val (.int v))) (k : Go W EL Z a0 own p l e R s m args below meth c F h cells slots (mkF m pc' ls (.int v :: st))) : Go W EL Z a0 own p l e R s m args below meth c F h cells slots (mkF m pc ls (st)) := by
  subst hp
  exact go_pure (fun T ha hx target hr => XS.iload ha hx rfl hd hl hr) k
theorem go_lload_n {i : Fin 4} {v : Int64} (hd : decode c.code pc = .ok (.lload_n i, 1)) (hp : pc + 1 = pc') (hl : ls[i.val]? = some (.val (.long v))) (k : Go W EL Z a0 own p l e R s m args below meth c F h cells slots (mkF m pc' ls (.long v :: st))) : Go W EL Z a0 own p l e R s m args below meth c F h cells slots (mkF m pc ls (st)) := by
  subst hp
  exact go_pure (fun T ha hx target hr => XT.lloadN ha hx rfl hd hl hr) k
theorem go_lload {i : Nat} {v : Int64} (hd : decode c.code pc = .ok (.lload i, 2)) (hp : pc + 2 = pc') (hl : ls[i]? = some (.val (.long v))) (k : Go W EL Z a0 own p l e R s m args below meth c F h cells slots (mkF m pc' ls (.long v :: st))) : Go W EL Z a0 own p l e R s m args below meth c F h cells slots (mkF m pc ls (st)) := by
  subst hp
  exact go_pure (fun T ha hx target hr => XT.lload ha hx rfl hd hl hr) k
theorem go_istore_n {i : Fin 4} {v : Int32} (hd : decode c.code pc = .ok (.istore_n i, 1)) (hp : pc + 1 = pc') (hl : storeLocals ls i.val (.int v) = some ls') (k : Go W EL Z a0 own p l e R s m args below meth c F h cells slots (mkF m pc' ls' (st))) : Go W EL Z a0 own p l e R s m args below meth c F h cells slots (mkF m pc ls (.int v :: st)) := by
  subst hp
  exact go_pure (fun T ha hx target hr => XS.istoreN ha hx rfl hd rfl hl hr) k
theorem go_istore {i : Nat} {v : Int32} (hd : decode c.code pc = .ok (.istore i, 2)) (hp : pc + 2 = pc') (hl : storeLocals ls i (.int v) = some ls') (k : Go W EL Z a0 own p l e R s m args below meth c F h cells slots (mkF m pc' ls' (st))) : Go W EL Z a0 own p l e R s m args below meth c F h cells slots (mkF m pc ls (.int v :: st)) := by
  subst hp
  exact go_pure (fun T ha hx target hr => XS.istore ha hx rfl hd rfl hl hr) k
theorem go_astore_n {i : Fin 4} {v : Value} (hd : decode c.code pc = .ok (.astore_n i, 1)) (hp : pc + 1 = pc') (hv : v.isRef = true) (hl : storeLocals ls i.val v = some ls') (k : Go W EL Z a0 own p l e R s m args below meth c F h cells slots (mkF m pc' ls' (st))) : Go W EL Z a0 own p l e R s m args below meth c F h cells slots (mkF m pc ls (v :: st)) := by
  subst hp
  exact go_pure (fun T ha hx target hr => XS.astoreN ha hx rfl hd rfl hv hl hr) k
theorem go_astore {i : Nat} {v : Value} (hd : decode c.code pc = .ok (.astore i, 2)) (hp : pc + 2 = pc') (hv : v.isRef = true) (hl : storeLocals ls i v = some ls') (k : Go W EL Z a0 own p l e R s m args below meth c F h cells slots (mkF m pc' ls' (st))) : Go W EL Z a0 own p l e R s m args below meth c F h cells slots (mkF m pc ls (v :: st)) := by
  subst hp
  exact go_pure (fun T ha hx target hr => XS.astore ha hx rfl hd rfl hv hl hr) k
theorem go_lstore_n {i : Fin 4} {v : Int64} (hd : decode c.code pc = .ok (.lstore_n i, 1)) (hp : pc + 1 = pc') (hl : storeLocals ls i.val (.long v) = some ls') (k : Go W EL Z a0 own p l e R s m args below meth c F h cells slots (mkF m pc' ls' (st))) : Go W EL Z a0 own p l e R s m args below meth c F h cells slots (mkF m pc ls (.long v :: st)) := by
  subst hp
  exact go_pure (fun T ha hx target hr => XT.lstoreN ha hx rfl hd rfl hl hr) k
theorem go_lstore {i : Nat} {v : Int64} (hd : decode c.code pc = .ok (.lstore i, 2)) (hp : pc + 2 = pc') (hl : storeLocals ls i (.long v) = some ls') (k : Go W EL Z a0 own p l e R s m args below meth c F h cells slots (mkF m pc' ls' (st))) : Go W EL Z a0 own p l e R s m args below meth c F h cells slots (mkF m pc ls (.long v :: st)) := by
  subst hp
  exact go_pure (fun T ha hx target hr => XT.lstore ha hx rfl hd rfl hl hr) k
theorem go_iadd {x y z : Int32} (hd : decode c.code pc = .ok (.iadd, 1)) (hp : pc + 1 = pc') (hz : x + y = z) (k : Go W EL Z a0 own p l e R s m args below meth c F h cells slots (mkF m pc' ls (.int z :: st))) : Go W EL Z a0 own p l e R s m args below meth c F h cells slots (mkF m pc ls (.int y :: .int x :: st)) := by
  subst hp hz
  exact go_pure (fun T ha hx target hr => XS.iadd ha hx rfl hd rfl hr) k
theorem go_isub {x y z : Int32} (hd : decode c.code pc = .ok (.isub, 1)) (hp : pc + 1 = pc') (hz : x - y = z) (k : Go W EL Z a0 own p l e R s m args below meth c F h cells slots (mkF m pc' ls (.int z :: st))) : Go W EL Z a0 own p l e R s m args below meth c F h cells slots (mkF m pc ls (.int y :: .int x :: st)) := by
  subst hp hz
  exact go_pure (fun T ha hx target hr => XS.isub ha hx rfl hd rfl hr) k
theorem go_imul {x y z : Int32} (hd : decode c.code pc = .ok (.imul, 1)) (hp : pc + 1 = pc') (hz : x * y = z) (k : Go W EL Z a0 own p l e R s m args below meth c F h cells slots (mkF m pc' ls (.int z :: st))) : Go W EL Z a0 own p l e R s m args below meth c F h cells slots (mkF m pc ls (.int y :: .int x :: st)) := by
  subst hp hz
  exact go_pure (fun T ha hx target hr => XS.imul ha hx rfl hd rfl hr) k
theorem go_iand {x y z : Int32} (hd : decode c.code pc = .ok (.iand, 1)) (hp : pc + 1 = pc') (hz : x &&& y = z) (k : Go W EL Z a0 own p l e R s m args below meth c F h cells slots (mkF m pc' ls (.int z :: st))) : Go W EL Z a0 own p l e R s m args below meth c F h cells slots (mkF m pc ls (.int y :: .int x :: st)) := by
  subst hp hz
  exact go_pure (fun T ha hx target hr => XS.iand ha hx rfl hd rfl hr) k
theorem go_ior {x y z : Int32} (hd : decode c.code pc = .ok (.ior, 1)) (hp : pc + 1 = pc') (hz : x ||| y = z) (k : Go W EL Z a0 own p l e R s m args below meth c F h cells slots (mkF m pc' ls (.int z :: st))) : Go W EL Z a0 own p l e R s m args below meth c F h cells slots (mkF m pc ls (.int y :: .int x :: st)) := by
  subst hp hz
  exact go_pure (fun T ha hx target hr => XT.ior ha hx rfl hd rfl hr) k
theorem go_ixor {x y z : Int32} (hd : decode c.code pc = .ok (.ixor, 1)) (hp : pc + 1 = pc') (hz : x ^^^ y = z) (k : Go W EL Z a0 own p l e R s m args below meth c F h cells slots (mkF m pc' ls (.int z :: st))) : Go W EL Z a0 own p l e R s m args below meth c F h cells slots (mkF m pc ls (.int y :: .int x :: st)) := by
  subst hp hz
  exact go_pure (fun T ha hx target hr => XT.ixor ha hx rfl hd rfl hr) k
theorem go_ishl {x y z : Int32} (hd : decode c.code pc = .ok (.ishl, 1)) (hp : pc + 1 = pc') (hz : x <<< (y &&& 31) = z) (k : Go W EL Z a0 own p l e R s m args below meth c F h cells slots (mkF m pc' ls (.int z :: st))) : Go W EL Z a0 own p l e R s m args below meth c F h cells slots (mkF m pc ls (.int y :: .int x :: st)) := by
  subst hp hz
  exact go_pure (fun T ha hx target hr => XT.ishl ha hx rfl hd rfl hr) k
theorem go_ishr {x y z : Int32} (hd : decode c.code pc = .ok (.ishr, 1)) (hp : pc + 1 = pc') (hz : x >>> (y &&& 31) = z) (k : Go W EL Z a0 own p l e R s m args below meth c F h cells slots (mkF m pc' ls (.int z :: st))) : Go W EL Z a0 own p l e R s m args below meth c F h cells slots (mkF m pc ls (.int y :: .int x :: st)) := by
  subst hp hz
  exact go_pure (fun T ha hx target hr => XT.ishr ha hx rfl hd rfl hr) k
theorem go_iushr {x y z : Int32} (hd : decode c.code pc = .ok (.iushr, 1)) (hp : pc + 1 = pc') (hz : XT.ushr x y = z) (k : Go W EL Z a0 own p l e R s m args below meth c F h cells slots (mkF m pc' ls (.int z :: st))) : Go W EL Z a0 own p l e R s m args below meth c F h cells slots (mkF m pc ls (.int y :: .int x :: st)) := by
  subst hp hz
  exact go_pure (fun T ha hx target hr => XT.iushr ha hx rfl hd rfl hr) k
theorem go_idiv {x y z : Int32} (hd : decode c.code pc = .ok (.idiv, 1)) (hp : pc + 1 = pc') (hy : y ≠ 0) (hz : x / y = z) (k : Go W EL Z a0 own p l e R s m args below meth c F h cells slots (mkF m pc' ls (.int z :: st))) : Go W EL Z a0 own p l e R s m args below meth c F h cells slots (mkF m pc ls (.int y :: .int x :: st)) := by
  subst hp hz
  exact go_pure (fun T ha hx target hr => XS.idiv ha hx rfl hd rfl hy hr) k
theorem go_irem {x y z : Int32} (hd : decode c.code pc = .ok (.irem, 1)) (hp : pc + 1 = pc') (hy : y ≠ 0) (hz : x % y = z) (k : Go W EL Z a0 own p l e R s m args below meth c F h cells slots (mkF m pc' ls (.int z :: st))) : Go W EL Z a0 own p l e R s m args below meth c F h cells slots (mkF m pc ls (.int y :: .int x :: st)) := by
  subst hp hz
  intro T P
  obtain ⟨t, o, h1, h2⟩ := k T P
  obtain ⟨vm0, k0, locs, -, X, -, hx, -⟩ := P
  exact ⟨t, o, iremM X hx rfl hd rfl hy h1, h2⟩
theorem go_ineg {x : Int32} {z : Int32} (hd : decode c.code pc = .ok (.ineg, 1)) (hp : pc + 1 = pc') (hz : -x = z) (k : Go W EL Z a0 own p l e R s m args below meth c F h cells slots (mkF m pc' ls (.int z :: st))) : Go W EL Z a0 own p l e R s m args below meth c F h cells slots (mkF m pc ls (.int x :: st)) := by
  subst hp hz
  exact go_pure (fun T ha hx target hr => XS.ineg ha hx rfl hd rfl hr) k
theorem go_i2c {x : Int32} {z : Int32} (hd : decode c.code pc = .ok (.i2c, 1)) (hp : pc + 1 = pc') (hz : x.toUInt32.toUInt16.toUInt32.toInt32 = z) (k : Go W EL Z a0 own p l e R s m args below meth c F h cells slots (mkF m pc' ls (.int z :: st))) : Go W EL Z a0 own p l e R s m args below meth c F h cells slots (mkF m pc ls (.int x :: st)) := by
  subst hp hz
  exact go_pure (fun T ha hx target hr => XT.i2c ha hx rfl hd rfl hr) k
theorem go_i2b {x : Int32} {z : Int32} (hd : decode c.code pc = .ok (.i2b, 1)) (hp : pc + 1 = pc') (hz : x.toInt8.toInt32 = z) (k : Go W EL Z a0 own p l e R s m args below meth c F h cells slots (mkF m pc' ls (.int z :: st))) : Go W EL Z a0 own p l e R s m args below meth c F h cells slots (mkF m pc ls (.int x :: st)) := by
  subst hp hz
  exact go_pure (fun T ha hx target hr => XT.i2b ha hx rfl hd rfl hr) k
theorem go_i2l {x : Int32} {z : Int64} (hd : decode c.code pc = .ok (.i2l, 1)) (hp : pc + 1 = pc') (hz : x.toInt64 = z) (k : Go W EL Z a0 own p l e R s m args below meth c F h cells slots (mkF m pc' ls (.long z :: st))) : Go W EL Z a0 own p l e R s m args below meth c F h cells slots (mkF m pc ls (.int x :: st)) := by
  subst hp hz
  exact go_pure (fun T ha hx target hr => XT.i2l ha hx rfl hd rfl hr) k
theorem go_l2i {x : Int64} {z : Int32} (hd : decode c.code pc = .ok (.l2i, 1)) (hp : pc + 1 = pc') (hz : x.toInt32 = z) (k : Go W EL Z a0 own p l e R s m args below meth c F h cells slots (mkF m pc' ls (.int z :: st))) : Go W EL Z a0 own p l e R s m args below meth c F h cells slots (mkF m pc ls (.long x :: st)) := by
  subst hp hz
  exact go_pure (fun T ha hx target hr => XT.l2i ha hx rfl hd rfl hr) k
theorem go_lneg {x : Int64} {z : Int64} (hd : decode c.code pc = .ok (.lneg, 1)) (hp : pc + 1 = pc') (hz : -x = z) (k : Go W EL Z a0 own p l e R s m args below meth c F h cells slots (mkF m pc' ls (.long z :: st))) : Go W EL Z a0 own p l e R s m args below meth c F h cells slots (mkF m pc ls (.long x :: st)) := by
  subst hp hz
  exact go_pure (fun T ha hx target hr => XT.lneg ha hx rfl hd rfl hr) k
theorem go_land {x y z : Int64} (hd : decode c.code pc = .ok (.land, 1)) (hp : pc + 1 = pc') (hz : x &&& y = z) (k : Go W EL Z a0 own p l e R s m args below meth c F h cells slots (mkF m pc' ls (.long z :: st))) : Go W EL Z a0 own p l e R s m args below meth c F h cells slots (mkF m pc ls (.long y :: .long x :: st)) := by
  subst hp hz
  exact go_pure (fun T ha hx target hr => XT.land ha hx rfl hd rfl hr) k
theorem go_ladd {x y z : Int64} (hd : decode c.code pc = .ok (.ladd, 1)) (hp : pc + 1 = pc') (hz : x + y = z) (k : Go W EL Z a0 own p l e R s m args below meth c F h cells slots (mkF m pc' ls (.long z :: st))) : Go W EL Z a0 own p l e R s m args below meth c F h cells slots (mkF m pc ls (.long y :: .long x :: st)) := by
  subst hp hz
  exact go_pure (fun T ha hx target hr => XT.ladd ha hx rfl hd rfl hr) k
theorem go_lsub {x y z : Int64} (hd : decode c.code pc = .ok (.lsub, 1)) (hp : pc + 1 = pc') (hz : x - y = z) (k : Go W EL Z a0 own p l e R s m args below meth c F h cells slots (mkF m pc' ls (.long z :: st))) : Go W EL Z a0 own p l e R s m args below meth c F h cells slots (mkF m pc ls (.long y :: .long x :: st)) := by
  subst hp hz
  exact go_pure (fun T ha hx target hr => XT.lsub ha hx rfl hd rfl hr) k
theorem go_ldiv {x y z : Int64} (hd : decode c.code pc = .ok (.ldiv, 1)) (hp : pc + 1 = pc') (hy : y ≠ 0) (hz : x / y = z) (k : Go W EL Z a0 own p l e R s m args below meth c F h cells slots (mkF m pc' ls (.long z :: st))) : Go W EL Z a0 own p l e R s m args below meth c F h cells slots (mkF m pc ls (.long y :: .long x :: st)) := by
  subst hp hz
  exact go_pure (fun T ha hx target hr => XT.ldiv ha hx rfl hd rfl hy hr) k
theorem go_lrem {x y z : Int64} (hd : decode c.code pc = .ok (.lrem, 1)) (hp : pc + 1 = pc') (hy : y ≠ 0) (hz : x - (x / y) * y = z) (k : Go W EL Z a0 own p l e R s m args below meth c F h cells slots (mkF m pc' ls (.long z :: st))) : Go W EL Z a0 own p l e R s m args below meth c F h cells slots (mkF m pc ls (.long y :: .long x :: st)) := by
  subst hp hz
  exact go_pure (fun T ha hx target hr => XT.lrem ha hx rfl hd rfl hy hr) k
theorem go_lcmp {x y : Int64} (hd : decode c.code pc = .ok (.lcmp, 1)) (hp : pc + 1 = pc') (k : Go W EL Z a0 own p l e R s m args below meth c F h cells slots (mkF m pc' ls (.int (XT.cmpL x y) :: st))) : Go W EL Z a0 own p l e R s m args below meth c F h cells slots (mkF m pc ls (.long y :: .long x :: st)) := by
  subst hp
  exact go_pure (fun T ha hx target hr => XT.lcmp ha hx rfl hd rfl hr) k
theorem go_lushr {x z : Int64} {y : Int32} (hd : decode c.code pc = .ok (.lushr, 1)) (hp : pc + 1 = pc') (hz : XT.ushrL x y = z) (k : Go W EL Z a0 own p l e R s m args below meth c F h cells slots (mkF m pc' ls (.long z :: st))) : Go W EL Z a0 own p l e R s m args below meth c F h cells slots (mkF m pc ls (.int y :: .long x :: st)) := by
  subst hp hz
  exact go_pure (fun T ha hx target hr => XT.lushr ha hx rfl hd rfl hr) k
theorem go_lconst {i : Fin 2} {v : Int64} (hd : decode c.code pc = .ok (.lconst i, 1)) (hp : pc + 1 = pc') (hv : Int64.ofNat i = v) (k : Go W EL Z a0 own p l e R s m args below meth c F h cells slots (mkF m pc' ls (.long v :: st))) : Go W EL Z a0 own p l e R s m args below meth c F h cells slots (mkF m pc ls st) := by
  subst hp hv
  exact go_pure (fun T ha hx target hr => XT.lconst ha hx rfl hd hr) k
theorem go_dup {v : Value} (hd : decode c.code pc = .ok (.dup, 1)) (hp : pc + 1 = pc') (hc : v.category = 1) (k : Go W EL Z a0 own p l e R s m args below meth c F h cells slots (mkF m pc' ls (v :: v :: st))) : Go W EL Z a0 own p l e R s m args below meth c F h cells slots (mkF m pc ls (v :: st)) := by
  subst hp
  exact go_pure (fun T ha hx target hr => XS.dup ha hx rfl hd rfl hc hr) k
theorem go_dup_x1 {v w : Value} (hd : decode c.code pc = .ok (.dup_x1, 1)) (hp : pc + 1 = pc') (hc : v.category = 1) (hc' : w.category = 1) (k : Go W EL Z a0 own p l e R s m args below meth c F h cells slots (mkF m pc' ls (v :: w :: v :: st))) : Go W EL Z a0 own p l e R s m args below meth c F h cells slots (mkF m pc ls (v :: w :: st)) := by
  subst hp
  exact go_pure (fun T ha hx target hr => XT.dupX1 ha hx rfl hd rfl hc hc' hr) k
theorem go_pop {v : Value} (hd : decode c.code pc = .ok (.pop, 1)) (hp : pc + 1 = pc') (hc : v.category = 1) (k : Go W EL Z a0 own p l e R s m args below meth c F h cells slots (mkF m pc' ls (st))) : Go W EL Z a0 own p l e R s m args below meth c F h cells slots (mkF m pc ls (v :: st)) := by
  subst hp
  exact go_pure (fun T ha hx target hr => XT.pop ha hx rfl hd rfl hc hr) k
theorem go_iinc {i : Nat} {q : Int} {x : Int32} (hd : decode c.code pc = .ok (.iinc i q, 3)) (hp : pc + 3 = pc') (hl : ls[i]? = some (.val (.int x))) {y : Int32} (hy : x + Int32.ofInt q = y) (hl' : storeLocals ls i (.int y) = some ls') (k : Go W EL Z a0 own p l e R s m args below meth c F h cells slots (mkF m pc' ls' st)) : Go W EL Z a0 own p l e R s m args below meth c F h cells slots (mkF m pc ls st) := by
  subst hp hy
  exact go_pure (fun T ha hx target hr => XS.iinc ha hx rfl hd hl hl' hr) k
theorem go_goto {o : Int} (hd : decode c.code pc = .ok (.goto o, 3)) (ho : 0 ≤ (pc : Int) + o) (hp : ((pc : Int) + o).toNat = pc') (k : Go W EL Z a0 own p l e R s m args below meth c F h cells slots (mkF m pc' ls st)) : Go W EL Z a0 own p l e R s m args below meth c F h cells slots (mkF m pc ls st) :=
  go_pure (fun T ha hx target hr => XS.goto ha hx rfl rfl hd ho hp hr) k
theorem go_ifT {o : Int} {cd : ClassFile.Cond} {x : Int32} (hd : decode c.code pc = .ok (.ifCond cd o, 3)) (ho : 0 ≤ (pc : Int) + o) (hp : ((pc : Int) + o).toNat = pc') (hc : ifCond.holds cd x = true) (k : Go W EL Z a0 own p l e R s m args below meth c F h cells slots (mkF m pc' ls st)) : Go W EL Z a0 own p l e R s m args below meth c F h cells slots (mkF m pc ls (.int x :: st)) :=
  go_pure (fun T ha hx target hr => XS.ifYes ha hx rfl rfl hd rfl hc ho hp hr) k
theorem go_ifF {o : Int} {cd : ClassFile.Cond} {x : Int32} (hd : decode c.code pc = .ok (.ifCond cd o, 3)) (hp : pc + 3 = pc') (hc : ifCond.holds cd x = false) (k : Go W EL Z a0 own p l e R s m args below meth c F h cells slots (mkF m pc' ls st)) : Go W EL Z a0 own p l e R s m args below meth c F h cells slots (mkF m pc ls (.int x :: st)) := by
  subst hp
  exact go_pure (fun T ha hx target hr => XS.ifNo ha hx rfl hd rfl hc hr) k
theorem go_icT {o : Int} {cd : ClassFile.Cond} {x y : Int32} (hd : decode c.code pc = .ok (.if_icmp cd o, 3)) (ho : 0 ≤ (pc : Int) + o) (hp : ((pc : Int) + o).toNat = pc') (hc : if_icmp.holds cd x y = true) (k : Go W EL Z a0 own p l e R s m args below meth c F h cells slots (mkF m pc' ls st)) : Go W EL Z a0 own p l e R s m args below meth c F h cells slots (mkF m pc ls (.int y :: .int x :: st)) :=
  go_pure (fun T ha hx target hr => XS.icmpYes ha hx rfl rfl hd rfl hc ho hp hr) k
theorem go_icF {o : Int} {cd : ClassFile.Cond} {x y : Int32} (hd : decode c.code pc = .ok (.if_icmp cd o, 3)) (hp : pc + 3 = pc') (hc : if_icmp.holds cd x y = false) (k : Go W EL Z a0 own p l e R s m args below meth c F h cells slots (mkF m pc' ls st)) : Go W EL Z a0 own p l e R s m args below meth c F h cells slots (mkF m pc ls (.int y :: .int x :: st)) := by
  subst hp
  exact go_pure (fun T ha hx target hr => XS.icmpNo ha hx rfl hd rfl hc hr) k
theorem go_acT {o : Int} {cd : ClassFile.ACond} {x y : Value} (hd : decode c.code pc = .ok (.if_acmp cd o, 3)) (ho : 0 ≤ (pc : Int) + o) (hp : ((pc : Int) + o).toNat = pc') (hx1 : x.isRef = true) (hy1 : y.isRef = true) (hc : XT.acmp cd x y = true) (k : Go W EL Z a0 own p l e R s m args below meth c F h cells slots (mkF m pc' ls st)) : Go W EL Z a0 own p l e R s m args below meth c F h cells slots (mkF m pc ls (y :: x :: st)) :=
  go_pure (fun T ha hx target hr => XT.acmpYes ha hx rfl rfl hd rfl hx1 hy1 hc ho hp hr) k
theorem go_acF {o : Int} {cd : ClassFile.ACond} {x y : Value} (hd : decode c.code pc = .ok (.if_acmp cd o, 3)) (hp : pc + 3 = pc') (hx1 : x.isRef = true) (hy1 : y.isRef = true) (hc : XT.acmp cd x y = false) (k : Go W EL Z a0 own p l e R s m args below meth c F h cells slots (mkF m pc' ls st)) : Go W EL Z a0 own p l e R s m args below meth c F h cells slots (mkF m pc ls (y :: x :: st)) := by
  subst hp
  exact go_pure (fun T ha hx target hr => XT.acmpNo ha hx rfl hd rfl hx1 hy1 hc hr) k
theorem go_nullT {o : Int} (hd : decode c.code pc = .ok (.ifnull o, 3)) (ho : 0 ≤ (pc : Int) + o) (hp : ((pc : Int) + o).toNat = pc') (k : Go W EL Z a0 own p l e R s m args below meth c F h cells slots (mkF m pc' ls st)) : Go W EL Z a0 own p l e R s m args below meth c F h cells slots (mkF m pc ls (.null :: st)) :=
  go_pure (fun T ha hx target hr => XS.ifnullYes ha hx rfl rfl hd rfl ho hp hr) k
theorem go_nullF {o : Int} {b : Addr} (hd : decode c.code pc = .ok (.ifnull o, 3)) (hp : pc + 3 = pc') (k : Go W EL Z a0 own p l e R s m args below meth c F h cells slots (mkF m pc' ls st)) : Go W EL Z a0 own p l e R s m args below meth c F h cells slots (mkF m pc ls (.ref b :: st)) := by
  subst hp
  exact go_pure (fun T ha hx target hr => XS.ifnullNo ha hx rfl hd rfl hr) k
theorem go_nnT {o : Int} {b : Addr} (hd : decode c.code pc = .ok (.ifnonnull o, 3)) (ho : 0 ≤ (pc : Int) + o) (hp : ((pc : Int) + o).toNat = pc') (k : Go W EL Z a0 own p l e R s m args below meth c F h cells slots (mkF m pc' ls st)) : Go W EL Z a0 own p l e R s m args below meth c F h cells slots (mkF m pc ls (.ref b :: st)) :=
  go_pure (fun T ha hx target hr => XT.ifnonnullYes ha hx rfl rfl hd rfl ho hp hr) k
theorem go_nnF {o : Int} (hd : decode c.code pc = .ok (.ifnonnull o, 3)) (hp : pc + 3 = pc') (k : Go W EL Z a0 own p l e R s m args below meth c F h cells slots (mkF m pc' ls st)) : Go W EL Z a0 own p l e R s m args below meth c F h cells slots (mkF m pc ls (.null :: st)) := by
  subst hp
  exact go_pure (fun T ha hx target hr => XT.ifnonnullNo ha hx rfl hd rfl hr) k
theorem go_getF {a : Addr} {v : Value} {R0 O n d : String} {index : Nat} (w : (Jvm.Cond.fieldLink own index R0 n d).before a0 Z = true) (via : Via Z R0 O n d) (F0 : Fld Z h a O n d v) (hd : decode c.code pc = .ok (.getfield index, 3)) (hp : pc + 3 = pc') (k : Go W EL Z a0 own p l e R s m args below meth c F h cells slots (mkF m pc' ls (v :: st))) : Go W EL Z a0 own p l e R s m args below meth c F h cells slots (mkF m pc ls (.ref a :: st)) := by
  subst hp
  intro T P
  obtain ⟨vm0, k0, locs, hWf, X, eT, hx, hZ, hown, hS, hk, hEL, hC, hN, hO⟩ := P
  obtain ⟨T', X', e', st'⟩ := getF X hx hZ hown (host := "") (Or.inl w) via eT F0 (g := mkF m pc ls (.ref a :: st)) rfl rfl hd
  obtain ⟨t, o, h1, h2⟩ := k T' ⟨vm0, k0, locs, hWf, X', e', hx, hZ, hown, hS, hk, hEL, hC, hN, hO⟩
  exact ⟨t, o, st' _ h1, h2⟩
theorem go_getS {v : Value} {O n d : String} {index : Nat} (w : (Jvm.Cond.fieldLink own index O n d).before a0 Z = true) (F0 : Sta Z h O n d v) (hd : decode c.code pc = .ok (.getstatic index, 3)) (hp : pc + 3 = pc') (k : Go W EL Z a0 own p l e R s m args below meth c F h cells slots (mkF m pc' ls (v :: st))) : Go W EL Z a0 own p l e R s m args below meth c F h cells slots (mkF m pc ls st) := by
  subst hp
  intro T P
  obtain ⟨vm0, k0, locs, hWf, X, eT, hx, hZ, hown, hS, hk, hEL, hC, hN, hO⟩ := P
  obtain ⟨T', X', e', st'⟩ := getS X hx hZ hown (host := "") w Via.refl eT F0 (g := mkF m pc ls st) rfl hd
  obtain ⟨t, o, h1, h2⟩ := k T' ⟨vm0, k0, locs, hWf, X', e', hx, hZ, hown, hS, hk, hEL, hC, hN, hO⟩
  exact ⟨t, o, st' _ h1, h2⟩
theorem safe_of {vm : Vm} {a : Addr} {C : String} (hal : Z.vm.Alike vm) (E : Exa Z h a C) (hs : (C ≠ "java/lang/String" ∧ C ≠ "[B") ∨ EL = []) : Safe Z EL vm h a := by
  rcases hs with hs | rfl
  · exact Safe.exa hal E hs.1 hs.2
  · exact safe_nil
theorem go_putF {a : Addr} {v v' old : Value} {R0 O n d C : String} {index kk : Nat} {ty : FieldType} (w : (Jvm.Cond.fieldLink own index R0 n d).before a0 Z = true) (via : Via Z R0 O n d) (F0 : Fld Z h a O n d old) (E : Exa Z h a C) (L : (Jvm.Cond.lays C O n d).before a0 Z = true ∨ ((Jvm.Cond.laysFinal C O n d).before a0 Z = true ∧ own = O ∧ meth.name = "<init>")) (wi : (Jvm.Cond.instantiable C kk).before a0 Z = true)
    (hty : parseFieldDescriptor d = some ty) (hn : narrow ty v = v') (hf : fits ty v' = true) (ha : Z.heap.size ≤ a) (hs : (C ≠ "java/lang/String" ∧ C ≠ "[B") ∨ EL = []) (hd : decode c.code pc = .ok (.putfield index, 3)) (hp : pc + 3 = pc')
    (k : ∀ h', Wr h h' a (Jvm.RoadKit.slotOf Z O n d) v' → Go W EL Z a0 own p l e R s m args below meth c F h' cells slots (mkF m pc' ls st)) : Go W EL Z a0 own p l e R s m args below meth c F h cells slots (mkF m pc ls (v :: .ref a :: st)) := by
  subst hp
  intro T P
  obtain ⟨vm0, k0, locs, hWf, X, eT, hx, hZ, hown, hS, hk, hEL, hC, hN, hO⟩ := P
  obtain ⟨T', h', X', e', W', st'⟩ := putFN X hx hZ hown w via eT F0 E L wi hty hn hf (g := mkF m pc ls (v :: .ref a :: st)) rfl rfl hd
  have S0 : Safe Z EL vm0 h a := safe_of hZ.alike E hs
  obtain ⟨t, o, h1, h2⟩ := k h' W' T' ⟨vm0, k0, _, hWf, X', e', hx, hZ, hown, hS, by rw [W'.size]; exact hk, hEL, hC.trans (CHr.wr W' S0 hC.1), Fr.snoc X' hN ha, hO.wr W' ha⟩
  exact ⟨t, o, st' _ h1, h2⟩
theorem go_newO {C : String} {index n : Nat} (w : (Jvm.Cond.classLink own index C).before a0 Z = true) (wi : (Jvm.Cond.instantiable C n).before a0 Z = true) (wz : (Jvm.Cond.initialized C).before a0 Z = true) (hd : decode c.code pc = .ok (.new index, 3)) (hp : pc + 3 = pc') (hcl : cells + 1 = cells') (hsl : slots + n = slots') (hc : cells' ≤ R.cells) (hl : slots' ≤ R.slots)
    (k : ∀ (h' : Heap) (a : Addr), h.size = a → Ext h h' → Exa Z h' a C → (∀ {O nm d : String} {ty : FieldType}, Laid Z a0 C O nm d → parseFieldDescriptor d = some ty → Fld Z h' a O nm d (defaultValue ty)) → Unt h' a → Go W EL Z a0 own p l e R s m args below meth c F h' cells' slots' (mkF m pc' ls (.ref a :: st))) : Go W EL Z a0 own p l e R s m args below meth c F h cells slots (mkF m pc ls st) := by
  subst hp hcl hsl
  intro T P
  obtain ⟨vm0, k0, locs, hWf, X, eT, hx, hZ, hown, hS, hk, hEL, hC, hN, hO⟩ := P
  obtain ⟨T', h', X', e', E', A', D', U', st'⟩ := newO X hx hZ hown w wi wz eT (g := mkF m pc ls st) rfl hd hc hl
  obtain ⟨t, o, h1, h2⟩ := k h' h.size rfl E' A' D' U' T' ⟨vm0, k0, _, hWf, X', e', hx, hZ, hown, hS, Nat.le_trans hk E'.1, hEL, hC.trans (CHr.ext E' hC.1), hN, hO.ext E'⟩
  exact ⟨t, o, st' _ h1, h2⟩
theorem go_newP {aty : ArrayType} {n : Int32} {cap : Nat} {vs : List Value} {ty : FieldType} {dv : Value} (w : (Jvm.Cond.arrayClass ty).before a0 Z = true) (hty : newarray.typeOf aty = ty) (hdv : defaultValue ty = dv) (hd : decode c.code pc = .ok (.newarray aty, 2)) (hp : pc + 2 = pc') (hn : ¬ n < 0) (hcap : n.toNatClampNeg = cap) (hb : cap * 8 ≤ 536870912) (hvs : List.replicate cap dv = vs) (hcl : cells + 1 = cells') (hsl : slots + cap = slots') (hc : cells' ≤ R.cells) (hl : slots' ≤ R.slots)
    (k : ∀ (h' : Heap) (a : Addr) (kA : ClassId), h.size = a → Ext h h' → Arv Z h' a kA ty n vs dv → Go W EL Z a0 own p l e R s m args below meth c F h' cells' slots' (mkF m pc' ls (.ref a :: st))) : Go W EL Z a0 own p l e R s m args below meth c F h cells slots (mkF m pc ls (.int n :: st)) := by
  subst hp hcl hsl hty hdv hvs
  intro T P
  obtain ⟨vm0, k0, locs, hWf, X, eT, hx, hZ, hown, hS, hk, hEL, hC, hN, hO⟩ := P
  obtain ⟨T', h', kA, X', e', E', A', st'⟩ := newP X hx hZ w eT (g := mkF m pc ls (.int n :: st)) rfl hd rfl hn (cap := cap) (Nat.le_of_eq hcap) hb hc hl
  have V : Arv Z h' h.size kA (newarray.typeOf aty) n (List.replicate cap (defaultValue (newarray.typeOf aty))) (defaultValue (newarray.typeOf aty)) := by
    have q := (Arv.new A' hn).pad (pad_rep [] (defaultValue (newarray.typeOf aty)) cap)
    simpa using q
  obtain ⟨t, o, h1, h2⟩ := k h' h.size kA rfl E' V T' ⟨vm0, k0, _, hWf, X', e', hx, hZ, hown, hS, Nat.le_trans hk E'.1, hEL, hC.trans (CHr.ext E' hC.1), hN, hO.ext E'⟩
  exact ⟨t, o, st' _ h1, h2⟩
theorem go_stC {a : Addr} {kA : ClassId} {z j x x' : Int32} {vs vs' : List Value} {dv : Value} {i : Nat} (A : Arv Z h a kA .char z vs dv) (ha : Z.heap.size ≤ a) (hj0 : ¬ j < 0) (hjz : j < z) (hji : j.toNatClampNeg = i) (hi : i < vs.length) (hx' : x.toUInt32.toUInt16.toUInt32.toInt32 = x') (hvs : vs.set i (.int x') = vs') (hd : decode c.code pc = .ok (.castore, 1)) (hp : pc + 1 = pc')
    (k : ∀ h', Wr h h' a i (.int x') → Arv Z h' a kA .char z vs' dv → Go W EL Z a0 own p l e R s m args below meth c F h' cells slots (mkF m pc' ls st)) : Go W EL Z a0 own p l e R s m args below meth c F h cells slots (mkF m pc ls (.int x :: .int j :: .ref a :: st)) := by
  subst hp hx' hvs hji
  intro T P
  obtain ⟨vm0, k0, locs, hWf, X, eT, hx, hZ, hown, hS, hk, hEL, hC, hN, hO⟩ := P
  obtain ⟨cl, Ar, q1, S1, N1, H1, G1⟩ := A
  obtain ⟨T', h', X', e', W', st'⟩ := stC X hx hZ eT Ar (j := j) (inb_of S1 ⟨hj0, hjz⟩) (g := mkF m pc ls (.int x :: .int j :: .ref a :: st)) rfl rfl hd
  have S0 : Safe Z EL vm0 h a := Safe.arr hZ.alike Ar (by decide)
  obtain ⟨t, o, h1, h2⟩ := k h' W' (Arv.set Ar q1 S1 N1 H1 G1 (fits_nar_char _) W' _ rfl hi) T' ⟨vm0, k0, _, hWf, X', e', hx, hZ, hown, hS, by rw [W'.size]; exact hk, hEL, hC.trans (CHr.wr W' S0 hC.1), Fr.snoc X' hN ha, hO.wr W' ha⟩
  exact ⟨t, o, st' _ h1, h2⟩
theorem go_stB {a : Addr} {kA : ClassId} {z j x x' : Int32} {vs vs' : List Value} {dv : Value} {i : Nat} (hE : EL = []) (A : Arv Z h a kA .byte z vs dv) (ha : Z.heap.size ≤ a) (hj0 : ¬ j < 0) (hjz : j < z) (hji : j.toNatClampNeg = i) (hi : i < vs.length) (hx' : x.toInt8.toInt32 = x') (hvs : vs.set i (.int x') = vs') (hd : decode c.code pc = .ok (.bastore, 1)) (hp : pc + 1 = pc')
    (k : ∀ h', Wr h h' a i (.int x') → Arv Z h' a kA .byte z vs' dv → Go W EL Z a0 own p l e R s m args below meth c F h' cells slots (mkF m pc' ls st)) : Go W EL Z a0 own p l e R s m args below meth c F h cells slots (mkF m pc ls (.int x :: .int j :: .ref a :: st)) := by
  subst hp hx' hvs hji hE
  intro T P
  obtain ⟨vm0, k0, locs, hWf, X, eT, hx, hZ, hown, hS, hk, hEL, hC, hN, hO⟩ := P
  obtain ⟨cl, Ar, q1, S1, N1, H1, G1⟩ := A
  obtain ⟨T', h', X', e', W', st'⟩ := stB X hx hZ eT Ar (j := j) (inb_of S1 ⟨hj0, hjz⟩) (g := mkF m pc ls (.int x :: .int j :: .ref a :: st)) rfl rfl hd
  obtain ⟨t, o, h1, h2⟩ := k h' W' (Arv.set Ar q1 S1 N1 H1 G1 (fits_nar_byte _) W' _ rfl hi) T' ⟨vm0, k0, _, hWf, X', e', hx, hZ, hown, hS, by rw [W'.size]; exact hk, hEL, hC.trans (CHr.wr W' safe_nil hC.1), Fr.snoc X' hN ha, hO.wr W' ha⟩
  exact ⟨t, o, st' _ h1, h2⟩
theorem go_caload {a : Addr} {kA : ClassId} {z j : Int32} {vs : List Value} {dv v : Value} {i : Nat} (A : Arv Z h a kA .char z vs dv) (hj0 : ¬ j < 0) (hjz : j < z) (hji : j.toNatClampNeg = i) (hv : vs.getD i dv = v) (hd : decode c.code pc = .ok (.caload, 1)) (hp : pc + 1 = pc')
    (k : Go W EL Z a0 own p l e R s m args below meth c F h cells slots (mkF m pc' ls (v :: st))) : Go W EL Z a0 own p l e R s m args below meth c F h cells slots (mkF m pc ls (.int j :: .ref a :: st)) := by
  subst hp hv hji
  intro T P
  obtain ⟨t, o, h1, h2⟩ := k T P
  obtain ⟨vm0, k0, locs, hWf, X, eT, hx, hZ, hown, hS, hk, hEL, hC, hN, hO⟩ := P
  obtain ⟨cl, Ar, q1, S1, N1, H1, G1⟩ := A
  have hin := inb_of S1 ⟨hj0, hjz⟩
  exact ⟨t, o, X.caload hx (by rw [eT]; exact Ar.1) (State.isArrayOf_alike hZ.alike Ar.2.1) Ar.2.2 hin (H1.at hin rfl) (g := mkF m pc ls (.int j :: .ref a :: st)) rfl rfl hd _ h1, h2⟩
theorem go_baload {a : Addr} {kA : ClassId} {z j : Int32} {vs : List Value} {dv v : Value} {i : Nat} (A : Arv Z h a kA .byte z vs dv) (hj0 : ¬ j < 0) (hjz : j < z) (hji : j.toNatClampNeg = i) (hv : vs.getD i dv = v) (hd : decode c.code pc = .ok (.baload, 1)) (hp : pc + 1 = pc')
    (k : Go W EL Z a0 own p l e R s m args below meth c F h cells slots (mkF m pc' ls (v :: st))) : Go W EL Z a0 own p l e R s m args below meth c F h cells slots (mkF m pc ls (.int j :: .ref a :: st)) := by
  subst hp hv hji
  intro T P
  obtain ⟨t, o, h1, h2⟩ := k T P
  obtain ⟨vm0, k0, locs, hWf, X, eT, hx, hZ, hown, hS, hk, hEL, hC, hN, hO⟩ := P
  obtain ⟨cl, Ar, q1, S1, N1, H1, G1⟩ := A
  have hin := inb_of S1 ⟨hj0, hjz⟩
  exact ⟨t, o, X.baloadBytes hx (by rw [eT]; exact Ar.1) (State.isArrayOf_alike hZ.alike Ar.2.1) Ar.2.2 hin (H1.at hin rfl) (g := mkF m pc ls (.int j :: .ref a :: st)) rfl rfl hd _ h1, h2⟩
theorem go_aaload {a : Addr} {kA : ClassId} {z j : Int32} {vs : List Value} {dv v : Value} {i : Nat} {ty : FieldType} (A : Arv Z h a kA ty z vs dv) (hty : ty.isReference = true) (hj0 : ¬ j < 0) (hjz : j < z) (hji : j.toNatClampNeg = i) (hv : vs.getD i dv = v) (hd : decode c.code pc = .ok (.aaload, 1)) (hp : pc + 1 = pc')
    (k : Go W EL Z a0 own p l e R s m args below meth c F h cells slots (mkF m pc' ls (v :: st))) : Go W EL Z a0 own p l e R s m args below meth c F h cells slots (mkF m pc ls (.int j :: .ref a :: st)) := by
  subst hp hv hji
  intro T P
  obtain ⟨t, o, h1, h2⟩ := k T P
  obtain ⟨vm0, k0, locs, hWf, X, eT, hx, hZ, hown, hS, hk, hEL, hC, hN, hO⟩ := P
  obtain ⟨cl, Ar, q1, S1, N1, H1, G1⟩ := A
  have hin := inb_of S1 ⟨hj0, hjz⟩
  exact ⟨t, o, X.aaload hx (by rw [eT]; exact Ar.1) (State.isArrayOf_alike hZ.alike Ar.2.1) hty Ar.2.2 hin (H1.at hin rfl) (g := mkF m pc ls (.int j :: .ref a :: st)) rfl rfl hd _ h1, h2⟩
theorem go_arraylength {a : Addr} {kA : ClassId} {z : Int32} {vs : List Value} {dv : Value} {ty : FieldType} (A : Arv Z h a kA ty z vs dv) (hd : decode c.code pc = .ok (.arraylength, 1)) (hp : pc + 1 = pc')
    (k : Go W EL Z a0 own p l e R s m args below meth c F h cells slots (mkF m pc' ls (.int z :: st))) : Go W EL Z a0 own p l e R s m args below meth c F h cells slots (mkF m pc ls (.ref a :: st)) := by
  subst hp
  intro T P
  obtain ⟨t, o, h1, h2⟩ := k T P
  obtain ⟨vm0, k0, locs, hWf, X, eT, hx, hZ, hown, hS, hk, hEL, hC, hN, hO⟩ := P
  obtain ⟨cl, Ar, q1, S1, N1, H1, G1⟩ := A
  refine ⟨t, o, X.arraylength hx (by rw [eT]; exact Ar.1) (State.isArrayOf_alike hZ.alike Ar.2.1) (g := mkF m pc ls (.ref a :: st)) rfl rfl hd _ ?_, h2⟩
  rw [len_of S1 N1]
  exact h1
theorem go_cast {a : Addr} {K : String} {index : Nat} (w : (Jvm.Cond.classLink own index K).before a0 Z = true) (I : Ins Z h a K true) (hd : decode c.code pc = .ok (.checkcast index, 3)) (hp : pc + 3 = pc') (k : Go W EL Z a0 own p l e R s m args below meth c F h cells slots (mkF m pc' ls (.ref a :: st))) : Go W EL Z a0 own p l e R s m args below meth c F h cells slots (mkF m pc ls (.ref a :: st)) := by
  subst hp
  intro T P
  obtain ⟨vm0, k0, locs, hWf, X, eT, hx, hZ, hown, hS, hk, hEL, hC, hN, hO⟩ := P
  obtain ⟨T', X', e', st'⟩ := castY X hx hZ hown w eT I (g := mkF m pc ls (.ref a :: st)) rfl rfl hd
  obtain ⟨t, o, h1, h2⟩ := k T' ⟨vm0, k0, locs, hWf, X', e', hx, hZ, hown, hS, hk, hEL, hC, hN, hO⟩
  exact ⟨t, o, st' _ h1, h2⟩
theorem go_instY {a : Addr} {K : String} {index : Nat} (w : (Jvm.Cond.classLink own index K).before a0 Z = true) (I : Ins Z h a K true) (hd : decode c.code pc = .ok (.instanceof index, 3)) (hp : pc + 3 = pc') (k : Go W EL Z a0 own p l e R s m args below meth c F h cells slots (mkF m pc' ls (.int 1 :: st))) : Go W EL Z a0 own p l e R s m args below meth c F h cells slots (mkF m pc ls (.ref a :: st)) := by
  subst hp
  intro T P
  obtain ⟨vm0, k0, locs, hWf, X, eT, hx, hZ, hown, hS, hk, hEL, hC, hN, hO⟩ := P
  obtain ⟨T', X', e', st'⟩ := instY X hx hZ hown w eT I (g := mkF m pc ls (.ref a :: st)) rfl rfl hd
  obtain ⟨t, o, h1, h2⟩ := k T' ⟨vm0, k0, locs, hWf, X', e', hx, hZ, hown, hS, hk, hEL, hC, hN, hO⟩
  exact ⟨t, o, st' _ h1, h2⟩
theorem go_instNo {a : Addr} {K C : String} {index : Nat} (w : (Jvm.Cond.classLink own index K).before a0 Z = true) (E : Exa Z h a C) (N0 : ∃ c t, Z.vm.findClass C = some c ∧ Z.vm.findClass K = some t ∧ Z.vm.assignable c t = false) (hd : decode c.code pc = .ok (.instanceof index, 3)) (hp : pc + 3 = pc') (k : Go W EL Z a0 own p l e R s m args below meth c F h cells slots (mkF m pc' ls (.int 0 :: st))) : Go W EL Z a0 own p l e R s m args below meth c F h cells slots (mkF m pc ls (.ref a :: st)) := by
  subst hp
  intro T P
  obtain ⟨vm0, k0, locs, hWf, X, eT, hx, hZ, hown, hS, hk, hEL, hC, hN, hO⟩ := P
  obtain ⟨T', X', e', st'⟩ := instNo X hx hZ hown w eT E N0 (g := mkF m pc ls (.ref a :: st)) rfl rfl hd
  obtain ⟨t, o, h1, h2⟩ := k T' ⟨vm0, k0, locs, hWf, X', e', hx, hZ, hown, hS, hk, hEL, hC, hN, hO⟩
  exact ⟨t, o, st' _ h1, h2⟩
theorem go_instNull {index : Nat} (hd : decode c.code pc = .ok (.instanceof index, 3)) (hp : pc + 3 = pc') (k : Go W EL Z a0 own p l e R s m args below meth c F h cells slots (mkF m pc' ls (.int 0 :: st))) : Go W EL Z a0 own p l e R s m args below meth c F h cells slots (mkF m pc ls (.null :: st)) := by
  subst hp
  intro T P
  obtain ⟨t, o, h1, h2⟩ := k T P
  obtain ⟨vm0, k0, locs, hWf, X, eT, hx, hZ, hown, hS, hk, hEL, hC, hN, hO⟩ := P
  exact ⟨t, o, X.instanceofNull hx (g := mkF m pc ls (.null :: st)) rfl rfl hd _ h1, h2⟩
theorem go_ldcI {v : Int32} {index : Nat} (w : (Jvm.Cond.constant own index v).before a0 Z = true) (hd : decode c.code pc = .ok (.ldc index, 2)) (hp : pc + 2 = pc') (k : Go W EL Z a0 own p l e R s m args below meth c F h cells slots (mkF m pc' ls (.int v :: st))) : Go W EL Z a0 own p l e R s m args below meth c F h cells slots (mkF m pc ls st) := by
  subst hp
  intro T P
  obtain ⟨t, o, h1, h2⟩ := k T P
  obtain ⟨vm0, k0, locs, hWf, X, eT, hx, hZ, hown, hS, hk, hEL, hC, hN, hO⟩ := P
  exact ⟨t, o, X.ldcInt hx hown (mvT hZ w) (g := mkF m pc ls st) rfl hd _ h1, h2⟩
theorem go_ldcJ {v : Int64} {index : Nat} (w : (Jvm.Cond.constantLong own index v).before a0 Z = true) (hd : decode c.code pc = .ok (.ldc2_w index, 3)) (hp : pc + 3 = pc') (k : Go W EL Z a0 own p l e R s m args below meth c F h cells slots (mkF m pc' ls (.long v :: st))) : Go W EL Z a0 own p l e R s m args below meth c F h cells slots (mkF m pc ls st) := by
  subst hp
  intro T P
  obtain ⟨t, o, h1, h2⟩ := k T P
  obtain ⟨vm0, k0, locs, hWf, X, eT, hx, hZ, hown, hS, hk, hEL, hC, hN, hO⟩ := P
  exact ⟨t, o, X.ldc2Long hx hown (mvT hZ w) (g := mkF m pc ls st) rfl hd _ h1, h2⟩
theorem go_ldcS {text : String} {index n : Nat} (hWt : W = true) (w : (Jvm.Cond.stringLink own index text).before a0 Z = true) (wS : ∀ a ∈ Bundle.stringAtoms, a.before a0 Z = true) (hn : 4 * text.toList.length ≤ n) (hbig : n ≤ 536870912) (hd : decode c.code pc = .ok (.ldc index, 2)) (hp : pc + 2 = pc') (hcl : cells + 2 = cells') (hsl : slots + (n + 4) = slots') (hc : cells' ≤ R.cells) (hl : slots' ≤ R.slots)
    (k : ∀ (h' : Heap) (a : Addr), Ext h h' → Go W EL Z a0 own p l e R s m args below meth c F h' cells' slots' (mkF m pc' ls (.ref a :: st))) : Go W EL Z a0 own p l e R s m args below meth c F h cells slots (mkF m pc ls st) := by
  subst hp hcl hsl hWt
  intro T P
  obtain ⟨vm0, k0, locs, hWf, X, eT, hx, hZ, hown, hS, hk, hEL, hC, hN, hO⟩ := P
  obtain ⟨a, T', h', k1, X', e', E', hS', hk', hZ', hown', hC', -, st'⟩ := ldcOH X hx hZ hown w wS eT hS hk hEL hC.1 (g := mkF m pc ls st) rfl hd hn hbig hc hl
  obtain ⟨t, o, h1, h2⟩ := k h' a E' T' ⟨T'.vm, k1, _, (fun q => nomatch q), X', e', hx, hZ', hown', hS', hk', hEL, hC.trans hC', hN, hO.ext E'⟩
  exact ⟨t, o, st' _ h1, h2⟩
theorem go_ldcH {text : String} {index n : Nat} {vs : List Value} {z : Int32} (hWt : W = true) (hmem : (own, index) ∈ EL) (w : (Jvm.Cond.stringLink own index text).before a0 Z = true) (wS : ∀ a ∈ Bundle.stringAtoms, a.before a0 Z = true) (ht : (∀ c ∈ text.toList, c.toNat < 256) ∧ text.toList.map (fun c => Value.int (Jvm.Lit.byteI c.toNat.toUInt16)) = vs) (hz : ¬ z < 0) (hlz : z.toNatClampNeg = vs.length) (hn : 4 * text.toList.length ≤ n) (hbig : n ≤ 536870912) (hd : decode c.code pc = .ok (.ldc index, 2)) (hp : pc + 2 = pc') (hcl : cells + 2 = cells') (hsl : slots + (n + 4) = slots') (hc : cells' ≤ R.cells) (hl : slots' ≤ R.slots)
    (k : ∀ (h' : Heap) (a b : Addr) (kb : ClassId), Ext h h' → Exa Z h' a "java/lang/String" → Fld Z h' a "java/lang/String" "coder" "B" (.int 0) → Fld Z h' a "java/lang/String" "value" "[B" (.ref b) → Arv Z h' b kb .byte z vs (.int 0) → Go W EL Z a0 own p l e R s m args below meth c F h' cells' slots' (mkF m pc' ls (.ref a :: st))) : Go W EL Z a0 own p l e R s m args below meth c F h cells slots (mkF m pc ls st) := by
  subst hp hcl hsl hWt
  intro T P
  obtain ⟨vm0, k0, locs, hWf, X, eT, hx, hZ, hown, hS, hk, hEL, hC, hN, hO⟩ := P
  obtain ⟨a, T', h', k1, b, kb, X', e', E', hS', hk', hZ', hown', q1, q2, q3, q4, -, -, hC', -, -, st'⟩ := ldcCH X hx hZ hown w wS eT hS hk hEL hmem hC.1 ht hz hlz (g := mkF m pc ls st) rfl hd hn hbig hc hl
  obtain ⟨t, o, h1, h2⟩ := k h' a b kb E' q1 q2 q3 q4 T' ⟨T'.vm, k1, _, (fun q => nomatch q), X', e', hx, hZ', hown', hS', hk', hEL, hC.trans hC', hN, hO.ext E'⟩
  exact ⟨t, o, st' _ h1, h2⟩
theorem go_initO {a : Addr} {idx Wd : Nat} (w1 : (Jvm.Cond.methodLink own idx Lib.objectInit).before a0 Z = true) (w2 : (Jvm.Cond.instanceMethod Lib.objectInit).before a0 Z = true) (w3 : (Jvm.Cond.code Lib.objectInit ⟨#[0xb1]⟩ 1 none).before a0 Z = true) (hsize : ls.size = c.maxLocals) (hW : 2 * 0 + (st.map fun v => v.category).sum ≤ Wd) (hf : 1 ≤ R.frames) (hl : Wd + 12 ≤ R.locals) (hd : decode c.code pc = .ok (.invokespecial idx, 3)) (hp : pc + 3 = pc') (k : Go W EL Z a0 own p l e R s m args below meth c F h cells slots (mkF m pc' ls st)) : Go W EL Z a0 own p l e R s m args below meth c F h cells slots (mkF m pc ls (.ref a :: st)) := by
  subst hp
  intro T P
  obtain ⟨vm0, k0, locs, hWf, X, eT, hx, hZ, hown, hS, hk, hEL, hC, hN, hO⟩ := P
  obtain ⟨T', X', e', st'⟩ := initO X hx hZ hown w1 w2 w3 eT (g := mkF m pc ls (.ref a :: st)) rfl hsize rfl hd hf (W := Wd) hW hl
  obtain ⟨t, o, h1, h2⟩ := k T' ⟨vm0, k0, locs, hWf, X', e', hx, hZ, hown, hS, hk, hEL, hC, hN, hO⟩
  exact ⟨t, o, st' _ h1, h2⟩
-- calls: what a payment gives back as a point of the caller's walk
theorem pt_back {vm0 vm₁ : Vm} {k0 : Nat} {locs L : List Loc} {T : State} {B : Pt} {ws : List Addr} {dc ds : Nat} (hWf : W = false → vm0 = s.vm) (eT : T.heap = h) (hx : p.tables.exec = Jvm.exec) (hZ : Z.Warmed39 vm0) (hown : vm0.findClass own = some m.cls) (hS : s.Since vm0 k0) (hk : k0 ≤ h.size) (hEL : EW Z a0 EL) (hC : CHr Z EL s.vm s.heap vm0 h) (hN : Fr Z.heap.size locs) (hO : Old Z Z.heap.size h)
    (X : Stand p l e R (s.setVm vm0) m args below meth c B.U B.locs B.cells B.slots) (hL : Fr Z.heap.size L) (K : Keep h B.U.heap ws) (b1 : B.locs = locs ++ L) (b2 : B.cells = cells + dc) (b3 : B.slots = slots + ds) (hws : ∀ x ∈ ws, Z.heap.size ≤ x) (hsf : ∀ vm, Z.vm.Alike vm → ∀ x ∈ ws, Safe Z EL vm h x) (hcl : cells + dc = cells') (hsl : slots + ds = slots') :
    PT W EL Z a0 own p l e R s m args below meth c B.U B.U.heap cells' slots' := by
  subst hcl hsl
  rw [b1, b2, b3] at X
  exact ⟨vm0, k0, _, hWf, X, rfl, hx, hZ, hown, hS, Nat.le_trans hk K.1, hEL, hC.trans (CHr.keep K (hsf _ hZ.alike) hC.1), hN.app hL, hO.keep K hws⟩
theorem pt_backS {vm0 : Vm} {k0 : Nat} {locs L : List Loc} {B : Pt} {ws : List Addr} {dc ds : Nat} (hWt : W = true) (hx : p.tables.exec = Jvm.exec) (hZ : Z.Warmed39 vm0) (hown : vm0.findClass own = some m.cls) (hS : s.Since vm0 k0) (hk : k0 ≤ h.size) (hEL : EW Z a0 EL) (hC : CHr Z EL s.vm s.heap vm0 h) (hN : Fr Z.heap.size locs) (hO : Old Z Z.heap.size h)
    (X : Stand p l e R (s.setVm B.U.vm) m args below meth c B.U B.locs B.cells B.slots) (S2 : (s.setVm vm0).Since B.U.vm B.U.heap.size) (hL : Fr Z.heap.size L) (K : Keep h B.U.heap ws) (b1 : B.locs = locs ++ L) (b2 : B.cells = cells + dc) (b3 : B.slots = slots + ds) (b4 : CHr Z EL vm0 h B.U.vm B.U.heap) (hws : ∀ x ∈ ws, Z.heap.size ≤ x) (hcl : cells + dc = cells') (hsl : slots + ds = slots') :
    PT W EL Z a0 own p l e R s m args below meth c B.U B.U.heap cells' slots' := by
  subst hcl hsl hWt
  rw [b1, b2, b3] at X
  have hZ' : Z.Warmed39 B.U.vm := State.Warmed39.trans (t := s.setVm vm0) (s := Z) hZ S2.1
  have hown' : B.U.vm.findClass own = some m.cls := by
    rw [S2.1.alike.findClass]
    exact hown
  exact ⟨B.U.vm, B.U.heap.size, _, (fun q => nomatch q), X, rfl, hx, hZ', hown', hS.trans S2 (Nat.le_trans hk K.1), Nat.le_refl _, hEL, hC.trans b4, hN.app hL, hO.keep K hws⟩
theorem callS0 {index Wd dc ds : Nat} {y : MethodName} {bytes : ByteArray} {maxL : Nat} {ret : Option FieldType} {argsL rest : List Value} {ws : List Addr} {Q : Option Value → Heap → Prop} {ps : List FieldType} {r : Option FieldType}
    (hK : Pay l R p e below Z y Wd argsL.toArray h dc ds ws Q) (w1 : (Jvm.Cond.methodLink own index y).before a0 Z = true) (w2 : (Jvm.Cond.static y).before a0 Z = true) (w3 : (Jvm.Cond.initialized y.cls).before a0 Z = true) (w4 : (Jvm.Cond.code y bytes maxL ret).before a0 Z = true) (hy : y.cls ≠ "java/lang/invoke/MethodHandle" ∧ y.cls ≠ "java/lang/invoke/VarHandle")
    (hpd : parseMethodDescriptor y.desc = some ⟨ps, r⟩) (hln : argsL.length = ps.length) (hst : st = argsL.reverse ++ rest) (hsize : ls.size = c.maxLocals) (hW : 2 * 0 + (rest.map fun v => v.category).sum ≤ Wd) (hcl : cells + dc = cells') (hsl : slots + ds = slots') (hc : cells' ≤ R.cells) (hs : slots' ≤ R.slots) (hws : ∀ x ∈ ws, Z.heap.size ≤ x) (hsf : ∀ vm, Z.vm.Alike vm → ∀ x ∈ ws, Safe Z EL vm h x)
    (hd : decode c.code pc = .ok (.invokestatic index, 3)) (k : ∀ (v : Option Value) (h' : Heap), Q v h' → Keep h h' ws → Go W EL Z a0 own p l e R s m args below meth c F h' cells' slots' (mkF m (pc + 3) ls (v.toList ++ rest))) : Go W EL Z a0 own p l e R s m args below meth c F h cells slots (mkF m pc ls st) := by
  intro T P
  obtain ⟨vm0, k0, locs, hWf, X, eT, hx, hZ, hown, hS, hk, hEL, hC, hN, hO⟩ := P
  obtain ⟨v, vm₁, B, -, X', ⟨L, ⟨q1, q2, q3⟩, b1, b2, b3⟩, st'⟩ := Jvm.LawKit.callS X hx hown (mvT hZ w1) (mvT hZ w2) (mvT hZ w3) (mvT hZ w4) hy (hK _ _ hZ) (g := mkF m pc ls st) rfl hsize (lenOf hpd hln) hst hW hd (fun _ _ => ⟨rfl, eT, by rw [hcl]; exact hc, by rw [hsl]; exact hs⟩)
  obtain ⟨t, o, h1, h2⟩ := k v _ q1 q3 B.U (pt_back (vm₁ := vm₁) hWf eT hx hZ hown hS hk hEL hC hN hO X' q2 q3 b1 b2 b3 hws hsf hcl hsl)
  exact ⟨t, o, st' _ h1, h2⟩
theorem callSW0 {index Wd dc ds : Nat} {y : MethodName} {bytes : ByteArray} {maxL : Nat} {ret : Option FieldType} {argsL rest : List Value} {ws : List Addr} {Q : Option Value → Heap → Prop} {ps : List FieldType} {r : Option FieldType} (hWt : W = true)
    (hK : PayW EL l R p e below Z y Wd argsL.toArray h dc ds ws Q) (w1 : (Jvm.Cond.methodLink own index y).before a0 Z = true) (w2 : (Jvm.Cond.static y).before a0 Z = true) (w3 : (Jvm.Cond.initialized y.cls).before a0 Z = true) (w4 : (Jvm.Cond.code y bytes maxL ret).before a0 Z = true) (hy : y.cls ≠ "java/lang/invoke/MethodHandle" ∧ y.cls ≠ "java/lang/invoke/VarHandle")
    (hpd : parseMethodDescriptor y.desc = some ⟨ps, r⟩) (hln : argsL.length = ps.length) (hst : st = argsL.reverse ++ rest) (hsize : ls.size = c.maxLocals) (hW : 2 * 0 + (rest.map fun v => v.category).sum ≤ Wd) (hcl : cells + dc = cells') (hsl : slots + ds = slots') (hc : cells' ≤ R.cells) (hs : slots' ≤ R.slots) (hws : ∀ x ∈ ws, Z.heap.size ≤ x)
    (hd : decode c.code pc = .ok (.invokestatic index, 3)) (k : ∀ (v : Option Value) (h' : Heap), Q v h' → Keep h h' ws → Go W EL Z a0 own p l e R s m args below meth c F h' cells' slots' (mkF m (pc + 3) ls (v.toList ++ rest))) : Go W EL Z a0 own p l e R s m args below meth c F h cells slots (mkF m pc ls st) := by
  intro T P
  obtain ⟨vm0, k0, locs, hWf, X, eT, hx, hZ, hown, hS, hk, hEL, hC, hN, hO⟩ := P
  obtain ⟨v, vm₁, B, -, X', S2, -, ⟨L, ⟨q1, q2, q3⟩, b1, b2, b3, b4⟩, st'⟩ := callSS X hx hown (mvT hZ w1) (mvT hZ w2) (mvT hZ w3) (mvT hZ w4) hy (hK s vm0 _ hZ hC.1) (g := mkF m pc ls st) rfl hsize (lenOf hpd hln) hst hW hd (fun _ _ => ⟨rfl, eT, by rw [hcl]; exact hc, by rw [hsl]; exact hs⟩)
  obtain ⟨t, o, h1, h2⟩ := k v _ q1 q3 B.U (pt_backS hWt hx hZ hown hS hk hEL hC hN hO X' S2 q2 q3 b1 b2 b3 b4 hws hcl hsl)
  exact ⟨t, o, st'.trans h1, h2⟩
theorem callI0 {index Wd dc ds : Nat} {y : MethodName} {bytes : ByteArray} {maxL : Nat} {a : Addr} {argsL rest : List Value} {ws : List Addr} {Q : Option Value → Heap → Prop} {ps : List FieldType} {r : Option FieldType}
    (hK : Pay l R p e below Z y Wd (.ref a :: argsL).toArray h dc ds ws Q) (hy1 : y.name = "<init>") (w1 : (Jvm.Cond.methodLink own index y).before a0 Z = true) (w2 : (Jvm.Cond.instanceMethod y).before a0 Z = true) (w4 : (Jvm.Cond.code y bytes maxL none).before a0 Z = true) (hy : y.cls ≠ "java/lang/invoke/MethodHandle" ∧ y.cls ≠ "java/lang/invoke/VarHandle")
    (hpd : parseMethodDescriptor y.desc = some ⟨ps, r⟩) (hln : argsL.length = ps.length) (hst : st = argsL.reverse ++ .ref a :: rest) (hsize : ls.size = c.maxLocals) (hW : 2 * 0 + (rest.map fun v => v.category).sum ≤ Wd) (hcl : cells + dc = cells') (hsl : slots + ds = slots') (hc : cells' ≤ R.cells) (hs : slots' ≤ R.slots) (hws : ∀ x ∈ ws, Z.heap.size ≤ x) (hsf : ∀ vm, Z.vm.Alike vm → ∀ x ∈ ws, Safe Z EL vm h x)
    (hd : decode c.code pc = .ok (.invokespecial index, 3)) (k : ∀ (v : Option Value) (h' : Heap), Q v h' → Keep h h' ws → Go W EL Z a0 own p l e R s m args below meth c F h' cells' slots' (mkF m (pc + 3) ls (v.toList ++ rest))) : Go W EL Z a0 own p l e R s m args below meth c F h cells slots (mkF m pc ls st) := by
  intro T P
  obtain ⟨vm0, k0, locs, hWf, X, eT, hx, hZ, hown, hS, hk, hEL, hC, hN, hO⟩ := P
  obtain ⟨v, vm₁, B, -, X', ⟨L, ⟨q1, q2, q3⟩, b1, b2, b3⟩, st'⟩ := X.specialBack hx hy1 hown (mvT hZ w1) (mvT hZ w2) (mvT hZ w4) hy (hK _ _ hZ) (g := mkF m pc ls st) rfl hsize (Steps.refl _) (lenOf hpd hln) hst hW hd (fun _ _ => ⟨rfl, eT, by rw [hcl]; exact hc, by rw [hsl]; exact hs⟩)
  obtain ⟨t, o, h1, h2⟩ := k v _ q1 q3 B.U (pt_back (vm₁ := vm₁) hWf eT hx hZ hown hS hk hEL hC hN hO X' q2 q3 b1 b2 b3 hws hsf hcl hsl)
  exact ⟨t, o, st'.trans h1, h2⟩
theorem callIW0 {index Wd dc ds : Nat} {y : MethodName} {bytes : ByteArray} {maxL : Nat} {a : Addr} {argsL rest : List Value} {ws : List Addr} {Q : Option Value → Heap → Prop} {ps : List FieldType} {r : Option FieldType} (hWt : W = true)
    (hK : PayW EL l R p e below Z y Wd (.ref a :: argsL).toArray h dc ds ws Q) (hy1 : y.name = "<init>") (w1 : (Jvm.Cond.methodLink own index y).before a0 Z = true) (w2 : (Jvm.Cond.instanceMethod y).before a0 Z = true) (w4 : (Jvm.Cond.code y bytes maxL none).before a0 Z = true) (hy : y.cls ≠ "java/lang/invoke/MethodHandle" ∧ y.cls ≠ "java/lang/invoke/VarHandle")
    (hpd : parseMethodDescriptor y.desc = some ⟨ps, r⟩) (hln : argsL.length = ps.length) (hst : st = argsL.reverse ++ .ref a :: rest) (hsize : ls.size = c.maxLocals) (hW : 2 * 0 + (rest.map fun v => v.category).sum ≤ Wd) (hcl : cells + dc = cells') (hsl : slots + ds = slots') (hc : cells' ≤ R.cells) (hs : slots' ≤ R.slots) (hws : ∀ x ∈ ws, Z.heap.size ≤ x)
    (hd : decode c.code pc = .ok (.invokespecial index, 3)) (k : ∀ (v : Option Value) (h' : Heap), Q v h' → Keep h h' ws → Go W EL Z a0 own p l e R s m args below meth c F h' cells' slots' (mkF m (pc + 3) ls (v.toList ++ rest))) : Go W EL Z a0 own p l e R s m args below meth c F h cells slots (mkF m pc ls st) := by
  intro T P
  obtain ⟨vm0, k0, locs, hWf, X, eT, hx, hZ, hown, hS, hk, hEL, hC, hN, hO⟩ := P
  obtain ⟨v, vm₁, B, -, X', S2, -, ⟨L, ⟨q1, q2, q3⟩, b1, b2, b3, b4⟩, st'⟩ := X.specialBackS hx hy1 hown (mvT hZ w1) (mvT hZ w2) (mvT hZ w4) hy (hK s vm0 _ hZ hC.1) (g := mkF m pc ls st) rfl hsize (Steps.refl _) (lenOf hpd hln) hst hW hd (fun _ _ => ⟨rfl, eT, by rw [hcl]; exact hc, by rw [hsl]; exact hs⟩)
  obtain ⟨t, o, h1, h2⟩ := k v _ q1 q3 B.U (pt_backS hWt hx hZ hown hS hk hEL hC hN hO X' S2 q2 q3 b1 b2 b3 b4 hws hcl hsl)
  exact ⟨t, o, st'.trans h1, h2⟩
theorem callV0 {index Wd dc ds : Nat} {y z : MethodName} {C C' : String} {a : Addr} {argsL rest : List Value} {ws : List Addr} {Q : Option Value → Heap → Prop} {ps : List FieldType} {r : Option FieldType}
    (hK : Pay l R p e below Z z Wd (.ref a :: argsL).toArray h dc ds ws Q) (E : Exa Z h a C) (w1 : (Jvm.Cond.methodLink own index y).before a0 Z = true) (w2 : (Jvm.Cond.declares y).before a0 Z = true) (w3 : (Jvm.Cond.selects C' y y).before a0 Z = true) (w5 : (Jvm.Cond.selects C y z).before a0 Z = true) (w4 : (Jvm.Cond.instanceMethod z).before a0 Z = true) (hy : y.cls ≠ "java/lang/invoke/MethodHandle" ∧ y.cls ≠ "java/lang/invoke/VarHandle")
    (hpd : parseMethodDescriptor y.desc = some ⟨ps, r⟩) (hln : argsL.length = ps.length) (hst : st = argsL.reverse ++ .ref a :: rest) (hsize : ls.size = c.maxLocals) (hW : 2 * 0 + (rest.map fun v => v.category).sum ≤ Wd) (hcl : cells + dc = cells') (hsl : slots + ds = slots') (hc : cells' ≤ R.cells) (hs : slots' ≤ R.slots) (hws : ∀ x ∈ ws, Z.heap.size ≤ x) (hsf : ∀ vm, Z.vm.Alike vm → ∀ x ∈ ws, Safe Z EL vm h x)
    (hd : decode c.code pc = .ok (.invokevirtual index, 3)) (k : ∀ (v : Option Value) (h' : Heap), Q v h' → Keep h h' ws → Go W EL Z a0 own p l e R s m args below meth c F h' cells' slots' (mkF m (pc + 3) ls (v.toList ++ rest))) : Go W EL Z a0 own p l e R s m args below meth c F h cells slots (mkF m pc ls st) := by
  intro T P
  obtain ⟨vm0, k0, locs, hWf, X, eT, hx, hZ, hown, hS, hk, hEL, hC, hN, hO⟩ := P
  obtain ⟨cB, kB, i1, i2, i3⟩ := isOf (T := T) (s := s.setVm vm0) hZ eT E
  obtain ⟨v, vm₁, B, -, X', ⟨L, ⟨q1, q2, q3⟩, b1, b2, b3⟩, st'⟩ := X.virtualBack hx (y := y) (z := z) hown (mvT hZ w1) (mvT hZ w2) (notFace_of_selects (args := #[]) (mvT hZ w3)) (mvT hZ w5) (mvT hZ w4) hy (hK _ _ hZ) i1 i3 (g := mkF m pc ls st) rfl hsize (Steps.refl _) (lenOf hpd hln) hst hW hd (fun _ _ => ⟨rfl, eT, by rw [hcl]; exact hc, by rw [hsl]; exact hs⟩)
  obtain ⟨t, o, h1, h2⟩ := k v _ q1 q3 B.U (pt_back (vm₁ := vm₁) hWf eT hx hZ hown hS hk hEL hC hN hO X' q2 q3 b1 b2 b3 hws hsf hcl hsl)
  exact ⟨t, o, st'.trans h1, h2⟩
theorem callVW0 {index Wd dc ds : Nat} {y z : MethodName} {C C' : String} {a : Addr} {argsL rest : List Value} {ws : List Addr} {Q : Option Value → Heap → Prop} {ps : List FieldType} {r : Option FieldType} (hWt : W = true)
    (hK : PayW EL l R p e below Z z Wd (.ref a :: argsL).toArray h dc ds ws Q) (E : Exa Z h a C) (w1 : (Jvm.Cond.methodLink own index y).before a0 Z = true) (w2 : (Jvm.Cond.declares y).before a0 Z = true) (w3 : (Jvm.Cond.selects C' y y).before a0 Z = true) (w5 : (Jvm.Cond.selects C y z).before a0 Z = true) (w4 : (Jvm.Cond.instanceMethod z).before a0 Z = true) (hy : y.cls ≠ "java/lang/invoke/MethodHandle" ∧ y.cls ≠ "java/lang/invoke/VarHandle")
    (hpd : parseMethodDescriptor y.desc = some ⟨ps, r⟩) (hln : argsL.length = ps.length) (hst : st = argsL.reverse ++ .ref a :: rest) (hsize : ls.size = c.maxLocals) (hW : 2 * 0 + (rest.map fun v => v.category).sum ≤ Wd) (hcl : cells + dc = cells') (hsl : slots + ds = slots') (hc : cells' ≤ R.cells) (hs : slots' ≤ R.slots) (hws : ∀ x ∈ ws, Z.heap.size ≤ x)
    (hd : decode c.code pc = .ok (.invokevirtual index, 3)) (k : ∀ (v : Option Value) (h' : Heap), Q v h' → Keep h h' ws → Go W EL Z a0 own p l e R s m args below meth c F h' cells' slots' (mkF m (pc + 3) ls (v.toList ++ rest))) : Go W EL Z a0 own p l e R s m args below meth c F h cells slots (mkF m pc ls st) := by
  intro T P
  obtain ⟨vm0, k0, locs, hWf, X, eT, hx, hZ, hown, hS, hk, hEL, hC, hN, hO⟩ := P
  obtain ⟨cB, kB, i1, i2, i3⟩ := isOf (T := T) (s := s.setVm vm0) hZ eT E
  obtain ⟨v, vm₁, B, -, X', S2, -, ⟨L, ⟨q1, q2, q3⟩, b1, b2, b3, b4⟩, st'⟩ := X.virtualBackS hx (y := y) (z := z) hown (mvT hZ w1) (mvT hZ w2) (notFace_of_selects (args := #[]) (mvT hZ w3)) (mvT hZ w5) (mvT hZ w4) hy (hK s vm0 _ hZ hC.1) i1 i3 (g := mkF m pc ls st) rfl hsize (Steps.refl _) (lenOf hpd hln) hst hW hd (fun _ _ => ⟨rfl, eT, by rw [hcl]; exact hc, by rw [hsl]; exact hs⟩)
  obtain ⟨t, o, h1, h2⟩ := k v _ q1 q3 B.U (pt_backS hWt hx hZ hown hS hk hEL hC hN hO X' S2 q2 q3 b1 b2 b3 b4 hws hcl hsl)
  exact ⟨t, o, st'.trans h1, h2⟩
theorem callP0 {index Wd dc ds : Nat} {y : MethodName} {bytes : ByteArray} {maxL : Nat} {ret : Option FieldType} {C : String} {a : Addr} {argsL rest : List Value} {ws : List Addr} {Q : Option Value → Heap → Prop} {ps : List FieldType} {r : Option FieldType}
    (hK : Pay l R p e below Z y Wd (.ref a :: argsL).toArray h dc ds ws Q) (E : Exa Z h a C) (w1 : (Jvm.Cond.methodLink own index y).before a0 Z = true) (w2 : (Jvm.Cond.instanceMethod y).before a0 Z = true) (w3 : (Jvm.Cond.selects y.cls y y).before a0 Z = true) (w5 : (Jvm.Cond.privateMethod y).before a0 Z = true) (w4 : (Jvm.Cond.code y bytes maxL ret).before a0 Z = true) (hy : y.cls ≠ "java/lang/invoke/MethodHandle" ∧ y.cls ≠ "java/lang/invoke/VarHandle")
    (hpd : parseMethodDescriptor y.desc = some ⟨ps, r⟩) (hln : argsL.length = ps.length) (hst : st = argsL.reverse ++ .ref a :: rest) (hsize : ls.size = c.maxLocals) (hW : 2 * 0 + (rest.map fun v => v.category).sum ≤ Wd) (hcl : cells + dc = cells') (hsl : slots + ds = slots') (hc : cells' ≤ R.cells) (hs : slots' ≤ R.slots) (hws : ∀ x ∈ ws, Z.heap.size ≤ x) (hsf : ∀ vm, Z.vm.Alike vm → ∀ x ∈ ws, Safe Z EL vm h x)
    (hd : decode c.code pc = .ok (.invokevirtual index, 3)) (k : ∀ (v : Option Value) (h' : Heap), Q v h' → Keep h h' ws → Go W EL Z a0 own p l e R s m args below meth c F h' cells' slots' (mkF m (pc + 3) ls (v.toList ++ rest))) : Go W EL Z a0 own p l e R s m args below meth c F h cells slots (mkF m pc ls st) := by
  intro T P
  obtain ⟨vm0, k0, locs, hWf, X, eT, hx, hZ, hown, hS, hk, hEL, hC, hN, hO⟩ := P
  obtain ⟨cl, i1, i2⟩ := E.cell
  obtain ⟨v, vm₁, B, -, X', ⟨L, ⟨q1, q2, q3⟩, b1, b2, b3⟩, st'⟩ := X.privateBack hx (y := y) hown (mvT hZ w1) (mvT hZ w2) (mvT hZ w3) (Cond.privateMethod_at (args := #[]) (mvP hZ w5)) (mvT hZ w4) hy (hK _ _ hZ) (g := mkF m pc ls st) rfl hsize (Steps.refl _) (by rw [eT]; exact i1) i2 (lenOf hpd hln) hst hW hd (fun _ _ => ⟨rfl, eT, by rw [hcl]; exact hc, by rw [hsl]; exact hs⟩)
  obtain ⟨t, o, h1, h2⟩ := k v _ q1 q3 B.U (pt_back (vm₁ := vm₁) hWf eT hx hZ hown hS hk hEL hC hN hO X' q2 q3 b1 b2 b3 hws hsf hcl hsl)
  exact ⟨t, o, st'.trans h1, h2⟩
theorem k_v {ws : List Addr} {QV : Value → Heap → Prop} {rest : List Value} (hp : pc + 3 = pc') (k : ∀ (x : Value) (h' : Heap), QV x h' → Keep h h' ws → Go W EL Z a0 own p l e R s m args below meth c F h' cells' slots' (mkF m pc' ls (x :: rest))) : ∀ (v : Option Value) (h' : Heap), rvl QV v h' → Keep h h' ws → Go W EL Z a0 own p l e R s m args below meth c F h' cells' slots' (mkF m (pc + 3) ls (v.toList ++ rest)) := by
  subst hp
  rintro _ h' ⟨x, rfl, q⟩ K
  exact k x h' q K
theorem k_n {ws : List Addr} {QN : Heap → Prop} {rest : List Value} (hp : pc + 3 = pc') (k : ∀ (h' : Heap), QN h' → Keep h h' ws → Go W EL Z a0 own p l e R s m args below meth c F h' cells' slots' (mkF m pc' ls rest)) : ∀ (v : Option Value) (h' : Heap), rno QN v h' → Keep h h' ws → Go W EL Z a0 own p l e R s m args below meth c F h' cells' slots' (mkF m (pc + 3) ls (v.toList ++ rest)) := by
  subst hp
  rintro _ h' ⟨rfl, q⟩ K
  exact k h' q K
-- the end
theorem fin_of {vm0 : Vm} {k0 : Nat} {locs : List Loc} {T : State} {h0 : Heap} {ws : List Addr} {Q : Option Value → Heap → Prop} {dc ds : Nat} {v : Option Value} (hlk : meth.locks = false) (hWf : W = false → vm0 = s.vm) (X : Stand p l e R (s.setVm vm0) m args below meth c T locs cells slots) (eT : T.heap = h) (hZ : Z.Warmed39 vm0) (hS : s.Since vm0 k0) (hk : k0 ≤ h.size) (hEL : EW Z a0 EL) (hC : CHr Z EL s.vm s.heap vm0 h) (hN : Fr Z.heap.size locs) (hv : meth.sig.returnType = none → v = none) (hq : Q v h) (K : Keep h0 h ws) (hc : cells ≤ dc) (hs : slots ≤ ds) :
    ∃ fs, (∀ (f : JFrame) (acts : List Action), f.method = m → f.locked = none → f.entered = [] → (doReturn e (T.setTop f) acts v).1 = T.setFrames fs) ∧ (T.setFrames fs).status = .running ∧ Ended (T.setFrames fs) below (.returned v) ∧ Fend W EL Z s h0 ws Q dc ds (.returned v) (T.setFrames fs) := by
  cases W
  · obtain rfl := hWf rfl
    obtain ⟨fs, hr, hrun, hended, hW, hsame⟩ := X.leave (v := v) hv hlk
    exact ⟨fs, hr, hrun, hended, v, locs, rfl, ⟨by rw [show (T.setFrames fs).heap = h from eT]; exact hq, hN, by rw [show (T.setFrames fs).heap = h from eT]; exact K⟩, (fun q => nomatch q), fun _ => ⟨⟨v, rfl⟩, hW, hsame.mono hc hs⟩⟩
  · obtain ⟨fs, hr, hrun, hended, q1, q2, q3, q4⟩ := X.leaveW hS (by rw [eT]; exact hk) (v := v) hv hlk
    exact ⟨fs, hr, hrun, hended, v, locs, rfl, ⟨by rw [show (T.setFrames fs).heap = h from eT]; exact hq, hN, by rw [show (T.setFrames fs).heap = h from eT]; exact K⟩, fun _ => ⟨by rw [show (T.setFrames fs).heap = h from eT]; exact hC.trans (show CHr Z EL vm0 h T.vm h from CHv.at X hZ hEL hC.1), q1, q2, q3, q4.mono hc hs⟩, (fun q => nomatch q)⟩
theorem go_areturn {v : Value} {t : FieldType} {h0 : Heap} {ws : List Addr} {Q : Option Value → Heap → Prop} {dc ds : Nat} (hret : meth.sig.returnType = some t) (hlk : meth.locks = false) (ht : t.isReference = true) (hv : v.isRef = true) (hd : decode c.code pc = .ok (.areturn, 1)) (hc : cells ≤ dc) (hs : slots ≤ ds) (hq : Q (some v) h) (K : Keep h0 h ws) :
    Go W EL Z a0 own p l e R s m args below meth c (Fend W EL Z s h0 ws Q dc ds) h cells slots (mkF m pc ls [v]) := by
  intro T P
  obtain ⟨vm0, k0, locs, hWf, X, eT, hx, hZ, hown, hS, hk, hEL, hC, hN, hO⟩ := P
  obtain ⟨fs, hr, q1, q2, q3⟩ := fin_of hlk hWf X eT hZ hS hk hEL hC hN (v := some v) (fun q => by rw [hret] at q; cases q) hq K hc hs
  exact ⟨_, _, X.areturnOut hx hv hret ht hd hr, q1, q2, q3⟩
theorem go_return {h0 : Heap} {ws : List Addr} {Q : Option Value → Heap → Prop} {dc ds : Nat} (hret : meth.sig.returnType = none) (hlk : meth.locks = false) (hd : decode c.code pc = .ok (.return_, 1)) (hc : cells ≤ dc) (hs : slots ≤ ds) (hq : Q none h) (K : Keep h0 h ws) :
    Go W EL Z a0 own p l e R s m args below meth c (Fend W EL Z s h0 ws Q dc ds) h cells slots (mkF m pc ls []) := by
  intro T P
  obtain ⟨vm0, k0, locs, hWf, X, eT, hx, hZ, hown, hS, hk, hEL, hC, hN, hO⟩ := P
  obtain ⟨fs, hr, q1, q2, q3⟩ := fin_of hlk hWf X eT hZ hS hk hEL hC hN (v := none) (fun _ => rfl) hq K hc hs
  exact ⟨_, _, X.returnOut hx hret hd hr, q1, q2, q3⟩
theorem go_ireturn {x : Int32} {t : FieldType} {h0 : Heap} {ws : List Addr} {Q : Option Value → Heap → Prop} {dc ds : Nat} (hret : meth.sig.returnType = some t) (hlk : meth.locks = false) (hn : narrow t (.int x) = .int x) (hti : t = .int ∨ t = .boolean ∨ t = .byte ∨ t = .char ∨ t = .short) (hd : decode c.code pc = .ok (.ireturn, 1)) (hc : cells ≤ dc) (hs : slots ≤ ds) (hq : Q (some (.int x)) h) (K : Keep h0 h ws) :
    Go W EL Z a0 own p l e R s m args below meth c (Fend W EL Z s h0 ws Q dc ds) h cells slots (mkF m pc ls [.int x]) := by
  intro T P
  obtain ⟨vm0, k0, locs, hWf, X, eT, hx, hZ, hown, hS, hk, hEL, hC, hN, hO⟩ := P
  obtain ⟨fs, hr, q1, q2, q3⟩ := fin_of hlk hWf X eT hZ hS hk hEL hC hN (v := some (.int x)) (fun q => by rw [hret] at q; cases q) hq K hc hs
  exact ⟨_, _, X.ireturnOut hx hret hn hti hd hr, q1, q2, q3⟩
theorem go_lreturn {x : Int64} {h0 : Heap} {ws : List Addr} {Q : Option Value → Heap → Prop} {dc ds : Nat} (hret : meth.sig.returnType = some .long) (hlk : meth.locks = false) (hd : decode c.code pc = .ok (.lreturn, 1)) (hc : cells ≤ dc) (hs : slots ≤ ds) (hq : Q (some (.long x)) h) (K : Keep h0 h ws) :
    Go W EL Z a0 own p l e R s m args below meth c (Fend W EL Z s h0 ws Q dc ds) h cells slots (mkF m pc ls [.long x]) := by
  intro T P
  obtain ⟨vm0, k0, locs, hWf, X, eT, hx, hZ, hown, hS, hk, hEL, hC, hN, hO⟩ := P
  obtain ⟨fs, hr, q1, q2, q3⟩ := fin_of hlk hWf X eT hZ hS hk hEL hC hN (v := some (.long x)) (fun q => by rw [hret] at q; cases q) hq K hc hs
  exact ⟨_, _, X.lreturnOut hx hret hd hr, q1, q2, q3⟩
theorem nv_obj {v : Value} {C : String} (q : v.isRef = true) : narrow (.object C) v = v := by cases v <;> first | rfl | simp [Value.isRef] at q
theorem fv_obj {v : Value} {C : String} (q : v.isRef = true) : fits (.object C) v = true := by cases v <;> first | rfl | simp [Value.isRef] at q
theorem i2b_i2b (x : Int32) : (x.toInt8.toInt32).toInt8.toInt32 = x.toInt8.toInt32 := by simp
theorem go_cut {α : Type} {P : α → Prop} {gf : α → JFrame} {g0 : JFrame} (k : ∀ q, P q → Go W EL Z a0 own p l e R s m args below meth c F h cells slots (gf q)) (b : (∀ q, P q → Go W EL Z a0 own p l e R s m args below meth c F h cells slots (gf q)) → Go W EL Z a0 own p l e R s m args below meth c F h cells slots (g0)) : Go W EL Z a0 own p l e R s m args below meth c F h cells slots (g0) := b k
theorem go_getSN {v : Value} {O n d host : String} {index : Nat} (w : (Jvm.Cond.fieldLinkNest own index O n d host).before a0 Z = true) (F0 : Sta Z h O n d v) (hd : decode c.code pc = .ok (.getstatic index, 3)) (hp : pc + 3 = pc') (k : Go W EL Z a0 own p l e R s m args below meth c F h cells slots (mkF m pc' ls (v :: st))) : Go W EL Z a0 own p l e R s m args below meth c F h cells slots (mkF m pc ls st) := by
  subst hp
  intro T P
  obtain ⟨vm0, k0, locs, hWf, X, eT, hx, hZ, hown, hS, hk, hEL, hC, hN, hO⟩ := P
  obtain ⟨T', X', e', st'⟩ := getS2 X hx hZ hown (Or.inr w) Via.refl eT F0 (g := mkF m pc ls st) rfl hd
  obtain ⟨t, o, h1, h2⟩ := k T' ⟨vm0, k0, locs, hWf, X', e', hx, hZ, hown, hS, hk, hEL, hC, hN, hO⟩
  exact ⟨t, o, st' _ h1, h2⟩
theorem go_newR {C : String} {index : Nat} {n : Int32} {cap : Nat} {vs : List Value} (w1 : (Jvm.Cond.classLink own index C).before a0 Z = true) (w2 : (Jvm.Cond.arrayOver (.object C)).before a0 Z = true) (hd : decode c.code pc = .ok (.anewarray index, 3)) (hp : pc + 3 = pc') (hn : ¬ n < 0) (hcap : n.toNatClampNeg = cap) (hb : cap * 8 ≤ 536870912) (hvs : List.replicate cap Value.null = vs) (hcl : cells + 1 = cells') (hsl : slots + cap = slots') (hc : cells' ≤ R.cells) (hl : slots' ≤ R.slots)
    (k : ∀ (h' : Heap) (a : Addr) (kA : ClassId), h.size = a → Ext h h' → Arv Z h' a kA (.object C) n vs .null → Ovr Z kA C → Go W EL Z a0 own p l e R s m args below meth c F h' cells' slots' (mkF m pc' ls (.ref a :: st))) : Go W EL Z a0 own p l e R s m args below meth c F h cells slots (mkF m pc ls (.int n :: st)) := by
  subst hp hcl hsl hvs
  intro T P
  obtain ⟨vm0, k0, locs, hWf, X, eT, hx, hZ, hown, hS, hk, hEL, hC, hN, hO⟩ := P
  obtain ⟨T', h', kA, X', e', E', A', O', st'⟩ := newR X hx hZ hown w1 w2 eT (g := mkF m pc ls (.int n :: st)) rfl hd rfl hn (cap := cap) (Nat.le_of_eq hcap) hb hc hl
  have V : Arv Z h' h.size kA (.object C) n (List.replicate cap Value.null) .null := by
    have q : Arv Z h' h.size kA (.object C) n ([] ++ List.replicate cap Value.null) .null := (Arv.new A' hn).pad (pad_rep [] (defaultValue (.object C)) cap)
    simpa using q
  obtain ⟨t, o, h1, h2⟩ := k h' h.size kA rfl E' V O' T' ⟨vm0, k0, _, hWf, X', e', hx, hZ, hown, hS, Nat.le_trans hk E'.1, hEL, hC.trans (CHr.ext E' hC.1), hN, hO.ext E'⟩
  exact ⟨t, o, st' _ h1, h2⟩
theorem go_stR {a y : Addr} {kA : ClassId} {z j : Int32} {vs vs' : List Value} {i : Nat} {K C : String} (A : Arv Z h a kA (.object K) z vs .null) (O0 : Ovr Z kA C) (I : Ins Z h y C true) (ha : Z.heap.size ≤ a) (hj0 : ¬ j < 0) (hjz : j < z) (hji : j.toNatClampNeg = i) (hi : i < vs.length) (hvs : vs.set i (.ref y) = vs') (hd : decode c.code pc = .ok (.aastore, 1)) (hp : pc + 1 = pc')
    (k : ∀ h', Wr h h' a i (.ref y) → Arv Z h' a kA (.object K) z vs' .null → Go W EL Z a0 own p l e R s m args below meth c F h' cells slots (mkF m pc' ls st)) : Go W EL Z a0 own p l e R s m args below meth c F h cells slots (mkF m pc ls (.ref y :: .int j :: .ref a :: st)) := by
  subst hp hvs hji
  intro T P
  obtain ⟨vm0, k0, locs, hWf, X, eT, hx, hZ, hown, hS, hk, hEL, hC, hN, hO⟩ := P
  obtain ⟨cl, Ar, q1, S1, N1, H1, G1⟩ := A
  obtain ⟨T', h', X', e', W', st'⟩ := stR X hx hZ eT Ar (j := j) (inb_of S1 ⟨hj0, hjz⟩) rfl (Sto.ofV Ar q1 O0 I) (g := mkF m pc ls (.ref y :: .int j :: .ref a :: st)) rfl rfl hd
  have S0 : Safe Z EL vm0 h a := Safe.arr hZ.alike Ar (by simp)
  obtain ⟨t, o, h1, h2⟩ := k h' W' (Arv.set Ar q1 S1 N1 H1 G1 rfl W' _ rfl hi) T' ⟨vm0, k0, _, hWf, X', e', hx, hZ, hown, hS, by rw [W'.size]; exact hk, hEL, hC.trans (CHr.wr W' S0 hC.1), Fr.snoc X' hN ha, hO.wr W' ha⟩
  exact ⟨t, o, st' _ h1, h2⟩
theorem go_clone {a : Addr} {kA : ClassId} {z : Int32} {vs : List Value} {dv : Value} {ty : FieldType} {ad : String} {index Wd cap : Nat} (w1 : (Jvm.Cond.methodLink own index ⟨ad, "clone", "()Ljava/lang/Object;"⟩).before a0 Z = true) (w2 : (Jvm.Cond.sameMethod ad "java/lang/Object" "clone" "()Ljava/lang/Object;").before a0 Z = true) (w3 : (Jvm.Cond.native ⟨"java/lang/Object", "clone", "()Ljava/lang/Object;"⟩).before a0 Z = true) (w4 : (Jvm.Cond.instanceMethod ⟨"java/lang/Object", "clone", "()Ljava/lang/Object;"⟩).before a0 Z = true) (w5 : (Jvm.Cond.selects ad ⟨ad, "clone", "()Ljava/lang/Object;"⟩ ⟨"java/lang/Object", "clone", "()Ljava/lang/Object;"⟩).before a0 Z = true) (w6 : (Jvm.Cond.castable ad "java/lang/Cloneable").before a0 Z = true)
    (A : Arv Z h a kA ty z vs dv) (E : Exa Z h a ad) (hsize : ls.size = c.maxLocals) (hW : 2 * 0 + (st.map fun v => v.category).sum ≤ Wd) (hf : 1 ≤ R.frames) (hl : Wd + 14 ≤ R.locals) (hcap : z.toNatClampNeg = cap) (hd : decode c.code pc = .ok (.invokevirtual index, 3)) (hp : pc + 3 = pc') (hcl : cells + 1 = cells') (hsl : slots + cap = slots') (hc : cells' ≤ R.cells) (hs : slots' ≤ R.slots)
    (k : ∀ (h' : Heap) (b : Addr), h.size = b → Ext h h' → Arv Z h' b kA ty z vs dv → Exa Z h' b ad → Go W EL Z a0 own p l e R s m args below meth c F h' cells' slots' (mkF m pc' ls (.ref b :: st))) : Go W EL Z a0 own p l e R s m args below meth c F h cells slots (mkF m pc ls (.ref a :: st)) := by
  subst hp hcl hsl
  intro T P
  obtain ⟨vm0, k0, locs, hWf, X, eT, hx, hZ, hown, hS, hk, hEL, hC, hN, hO⟩ := P
  obtain ⟨cl, Ar, q1, S1, N1, H1, G1⟩ := A
  have FC : FitC Z cl := fitC_of Ar fun i hi v hv => by rw [H1 i hi] at hv; cases hv; exact G1 i hi
  obtain ⟨T', h', X', e', E', A', B', st'⟩ := cloneA X hx hZ hown w1 w2 w3 w4 w5 w6 eT Ar E FC (g := mkF m pc ls (.ref a :: st)) rfl hsize rfl hd hf (W := Wd) hW hl (cap := cap) (by rw [S1]; exact Nat.le_of_eq hcap) hc hs
  obtain ⟨t, o, h1, h2⟩ := k h' h.size rfl E' ⟨cloneOf cl, A', q1, S1, N1, H1, G1⟩ B' T' ⟨vm0, k0, _, hWf, X', e', hx, hZ, hown, hS, Nat.le_trans hk E'.1, hEL, hC.trans (CHr.ext E' hC.1), hN, hO.ext E'⟩
  exact ⟨t, o, st' _ h1, h2⟩
end Own
abbrev EL1 : List (String × Nat) := [("com/example/onceward/onceward/HostPortEqualsPinLaw", 7)]
def GH (Z : State) (a0 : Array Value) : Prop := (∀ d ∈ tables_1, d.before a0 Z = true) ∧ (∀ d ∈ jdkStatics_1, d.before a0 Z = true) ∧ EW Z a0 EL1 ∧ (narrow_1.value a0 Z none Z [] = some true) ∧ Fit Z
theorem wk {Z : State} {a0 : Array Value} (G : GH Z a0) (k : Nat) {d : Jvm.Cond} (q : tables_1[k]? = some d) : d.before a0 Z = true := G.1 _ (List.mem_of_getElem? q)
theorem jk {Z : State} {a0 : Array Value} (G : GH Z a0) (k : Nat) {d : Jvm.Cond} (q : jdkStatics_1[k]? = some d) : d.before a0 Z = true := G.2.1 _ (List.mem_of_getElem? q)
theorem ew1 {Z : State} {a0 : Array Value} (G : GH Z a0) : EW Z a0 EL1 := G.2.2.1
theorem wS {Z : State} {a0 : Array Value} (G : GH Z a0) : ∀ a ∈ Bundle.stringAtoms, a.before a0 Z = true := fun a ha => G.1 a ((by decide +kernel : ∀ d ∈ Bundle.stringAtoms, d ∈ tables_1) a ha)
theorem cs_of {Z : State} {a0 : Array Value} (G : GH Z a0) : ∃ z, Sta Z Z.heap "java/lang/String" "COMPACT_STRINGS" "Z" (.int z) ∧ ¬ z = 0 := by
  obtain ⟨z, e1⟩ := is_v (Cond.before_iff.mp (jk G 1 rfl))
  exact ⟨z, Sta.start e1 (Or.inl (jk G 0 rfl)), gotF (Cond.eq_ints e1 (Term.int_eval (0))) (not_v (Cond.before_iff.mp (jk G 2 rfl)))⟩
theorem sf_of {Z : State} {a0 : Array Value} (G : GH Z a0) : ∃ v, Sta Z Z.heap "jdk/internal/util/Preconditions" "SIOOBE_FORMATTER" "Ljava/util/function/BiFunction;" v ∧ v.isRef = true := by
  obtain ⟨v, e1, r1⟩ := isR_v (Cond.before_iff.mp (jk G 8 rfl))
  exact ⟨v, Sta.start e1 (Or.inl (jk G 7 rfl)), r1⟩
theorem held_of {s : State} {q : String × Nat} (h : Jvm.Pilot.@@N@@.Jvm.D.constHeld s q.1 q.2) : Jvm.Lit.constHeld s q.1 q.2 := h
theorem nar_c8 {c : Int32} (q : ¬ c < 0 ∧ ¬ (255 : Int32) < c) : narrow .char (.int c) = .int c := by
  show Value.int (nar .char c) = _
  rw [show nar .char c = c.toUInt32.toUInt16.toUInt32.toInt32 from rfl]
  have r := c_i2c c
  obtain ⟨q1, q2⟩ := q
  rw [Int32.lt_iff_toInt_lt] at q1 q2
  have e1 : (255 : Int32).toInt = 255 := by decide
  have e0 : (0 : Int32).toInt = 0 := by decide
  congr 1
  apply Int32.toInt_inj.mp
  omega
section OwnStr
variable {W : Bool} {EL : List (String × Nat)} {Z : State} {a0 : Array Value} {own : String} {p : Program} {l : Launch} {e : Env} {R : Room} {below : List Frame} {h h' : Heap} {x b : Addr} {cs ds : List Int32}
abbrev C8 (c : Int32) : Prop := ¬ c < 0 ∧ ¬ (255 : Int32) < c
theorem c8n : ∀ c ∈ ([] : List Int32), C8 c := fun _ q => nomatch q
theorem c8c {y : Int32} {L : List Int32} (q : C8 y) (r : ∀ c ∈ L, C8 c) : ∀ c ∈ y :: L, C8 c := fun c hc => by
  rcases List.mem_cons.mp hc with rfl | hc
  · exact q
  · exact r c hc
theorem c8_m (y : Int32) : C8 (y &&& 255) := by
  have q := c_and y 255 (by decide)
  have e1 : (255 : Int32).toInt = 255 := by decide
  have e0 : (0 : Int32).toInt = 0 := by decide
  constructor <;> (intro r; rw [Int32.lt_iff_toInt_lt] at r; omega)
theorem c8_up {c : Int32} (q : C8 c) : ¬ c < 0 ∧ ¬ (65535 : Int32) < c := ⟨q.1, fun r => q.2 (by
  rw [Int32.lt_iff_toInt_lt] at r ⊢
  have e1 : (65535 : Int32).toInt = 65535 := by decide
  have e2 : (255 : Int32).toInt = 255 := by decide
  omega)⟩
theorem i2c_c16 {c : Int32} (q : ¬ c < 0 ∧ ¬ (65535 : Int32) < c) : c.toUInt32.toUInt16.toUInt32.toInt32 = c := by
  have r := c_i2c c
  obtain ⟨q1, q2⟩ := q
  rw [Int32.lt_iff_toInt_lt] at q1 q2
  have e1 : (65535 : Int32).toInt = 65535 := by decide
  have e0 : (0 : Int32).toInt = 0 := by decide
  apply Int32.toInt_inj.mp
  omega
theorem i2c_c8 {c : Int32} (q : C8 c) : c.toUInt32.toUInt16.toUInt32.toInt32 = c := i2c_c16 (c8_up q)
def Str (Z : State) (h : Heap) (a : Addr) (cs : List Int32) : Prop := ∃ (t : Addr) (kb : ClassId), Exa Z h a "java/lang/String" ∧ Fld Z h a "java/lang/String" "value" "[B" (.ref t) ∧ Fld Z h a "java/lang/String" "coder" "B" (.int 0) ∧ Arv Z h t kb .byte (Int32.ofNat cs.length) ((cs.map fun c => c.toInt8.toInt32).map Value.int) (.int 0) ∧ (∀ c ∈ cs, C8 c) ∧ cs.length ≤ 4000
theorem Str.exa (S : Str Z h x cs) : Exa Z h x "java/lang/String" := by obtain ⟨t, k, q, -⟩ := S; exact q
theorem Str.keep (S : Str Z h x cs) (K : Keep h h' []) : Str Z h' x cs := by
  obtain ⟨t, k, q1, q2, q3, q4, q5, q6⟩ := S
  exact ⟨t, k, q1.keep K, q2.keep K nin0, q3.keep K nin0, q4.keep K nin0, q5, q6⟩
theorem Str.ext (S : Str Z h x cs) (E : Ext h h') : Str Z h' x cs := S.keep ((Keep.refl h []).ext E)
theorem Str.keepX {C : String} {n : Nat} (S : Str Z h x cs) (K : Keep h h' [b]) (E : Exa Z h b C) (hC : C ≠ "java/lang/String") (wi : (Jvm.Cond.instantiable C n).before a0 Z = true) : Str Z h' x cs := by
  obtain ⟨t, k, q1, q2, q3, q4, q5, q6⟩ := S
  have n1 : x ≠ b := ne_exa q1 E (Ne.symm hC)
  obtain ⟨cl, Ar, -⟩ := id q4
  have n2 : t ≠ b := Ne.symm (ne_arr E wi Ar)
  exact ⟨t, k, q1.keep K, q2.keep K (ninS n1 nin0), q3.keep K (ninS n1 nin0), q4.keep K (ninS n2 nin0), q5, q6⟩
theorem safe_null {vm : Vm} (hal : Z.vm.Alike vm) (E : Exa Z h x "java/lang/String") (V : Fld Z h x "java/lang/String" "value" "[B" .null) : Safe Z EL vm h x := fun B => by
  obtain ⟨cell, k, e1, e2, e3, -, -⟩ := E
  obtain ⟨cell', cf, k', i, f, v1, v2, v3, v4, v5, v6, v7⟩ := V
  cases e1.symm.trans v1
  obtain ⟨p, -, u, a, -, q, -, F, rfl | rfl⟩ := B
  · cases (show h[q.sa]? = some q.sC from F.ha).symm.trans e1
    obtain ⟨cS, ⟨⟨s1, s2, s3, ⟨cv, kv, iv, s4, s4'⟩, s5, s6, s7, s8, s9⟩, -, -⟩, -⟩ := F
    obtain ⟨kz, z4⟩ := ff_back (U := Wst Z vm h) hal s4
    cases z4.symm.trans v2
    rw [s8] at v7
    cases v7
  · cases (show h[q.sd]? = some q.SA from F.hd).symm.trans e1
    obtain ⟨cS, -, -, fB, -⟩ := F
    have f' : vm.findClass "[B" = some q.SA.cls := fB
    rw [hal.findClass] at f'
    obtain ⟨k1, q1, q2⟩ := Vm.findClass_spec f'
    obtain ⟨k2, q3, q4⟩ := Vm.findClass_spec e2
    cases q1.symm.trans q3
    exact absurd (q2.symm.trans q4) (by decide)
theorem pay_new (G : GH Z a0) (O : Old Z Z.heap.size h) {kC : ClassId} {d v0 c0 : Value} {N : Int32} {n Wd : Nat} (hx0 : Z.heap.size ≤ x) (E : Exa Z h x "java/lang/String") (V : Fld Z h x "java/lang/String" "value" "[B" v0) (C : Fld Z h x "java/lang/String" "coder" "B" c0) (K : Arv Z h b kC .char N (cs.map Value.int) d) (hn : cs.length = n) (hN : N = Int32.ofNat n) (l0 : 0 < n) (l2 : n ≤ 4000) (hp : ∀ c ∈ cs, C8 c) (hfr : 4 ≤ R.frames) (hlo : Wd + 65 ≤ R.locals) :
    Pay l R p e below Z (⟨"java/lang/String", "<init>", "([C)V"⟩ : MethodName) Wd #[.ref x, .ref b] h 1 n [x] (rno fun h' => Str Z h' x cs) := by
  intro s args hZ
  obtain ⟨z, hS, hz⟩ := cs_of G
  refine (StrChars.Road.backV (W := Wd) hZ (fun d hd => G.1 d ((by decide +kernel : ∀ d ∈ StrChars.Road.words, d ∈ tables_1) d hd)) (kI := 4) (wk G 9 rfl) hx0 O.2.1 E V C K (hS.ext O.2) hz hn hN l0 l2 hp rfl hfr hlo).mono (fun _ _ q => q) ?_
  rintro A a v B - ⟨L, ⟨rfl, q1, q2, q3, q4, t, kb, q5, q6, q7, q8, q9⟩, b1, b2, b3⟩
  subst hn hN
  exact ⟨L, ⟨⟨rfl, t, kb, q3, q8, q4, q9, hp, l2⟩, q1, q2⟩, b1, b2, b3⟩
theorem pay_eq (G : GH Z a0) (O : Old Z Z.heap.size h) {Wd : Nat} (S : Str Z h x cs) (S' : Str Z h b ds) (hfr : 2 ≤ R.frames) (hlo : Wd + 28 ≤ R.locals) :
    Pay l R p e below Z (⟨"java/lang/String", "equals", "(Ljava/lang/Object;)Z"⟩ : MethodName) Wd #[.ref x, .ref b] h 0 0 [] (rvl fun v h' => (.int 1 = v ∧ cs = ds ∧ h = h') ∨ (.int 0 = v ∧ ¬ cs = ds ∧ h = h')) := by
  intro s args hZ
  obtain ⟨z, hS, hz⟩ := cs_of G
  obtain ⟨t, kb, q1, q2, q3, q4, q5, q6⟩ := S
  obtain ⟨t', kb', r1, r2, r3, r4, r5, r6⟩ := S'
  refine (StrChars.Road.eqW (W := Wd) hZ (fun d hd => G.1 d ((by decide +kernel : ∀ d ∈ StrChars.Road.wordsEq, d ∈ tables_1) d hd)) (kI := 4) (wk G 9 rfl) q1 q2 q3 q4 (StrChars.Road.codOf rfl fun c hc => (q5 c hc).2) (fun c hc => c8_up (q5 c hc)) q6 r1 r2 r3 r4 (StrChars.Road.codOf rfl fun c hc => (r5 c hc).2) (fun c hc => c8_up (r5 c hc)) r6 (hS.ext O.2) hz hfr hlo).mono (fun _ _ q => q) ?_
  rintro A a v B - ⟨L, ⟨⟨rfl, q⟩ | ⟨rfl, q⟩, rfl, e1⟩, b1, b2, b3⟩
  · exact ⟨[], ⟨⟨_, rfl, Or.inl ⟨rfl, q, e1.symm⟩⟩, Fr.nil _, by rw [e1]; exact Keep.refl _ _⟩, b1, b2, b3⟩
  · exact ⟨[], ⟨⟨_, rfl, Or.inr ⟨rfl, q, e1.symm⟩⟩, Fr.nil _, by rw [e1]; exact Keep.refl _ _⟩, b1, b2, b3⟩
end OwnStr
theorem ns_root {Z : State} {a0 : Array Value} {O K : String} {n : Nat} (w : (Jvm.Cond.noSuperclass O).before a0 Z = true) (wk : (Jvm.Cond.instantiable K n).before a0 Z = true) (hn : O ≠ K) : NS Z O K := by
  obtain ⟨c, k, h1, h2, h3, -, -⟩ := Cond.noSuperclass_spec w
  obtain ⟨t, k', g1, -⟩ := Cond.instantiable_spec wk
  have ne := ids_ne h1 g1 hn
  refine ⟨c, t, h1, g1, fun fuel => ?_⟩
  cases fuel with
  | zero => rfl
  | succ f => simp [Vm.isSubclassAux, ne, h2, h3]
theorem no_inst {Z : State} {a0 : Array Value} {C S K : String} {n : Nat} (w : (Jvm.Cond.superclass C S).before a0 Z = true) (wk : (Jvm.Cond.instantiable K n).before a0 Z = true) (q : NS Z C K) (hn : C ≠ K) : ∃ c t, Z.vm.findClass C = some c ∧ Z.vm.findClass K = some t ∧ Z.vm.assignable c t = false := by
  obtain ⟨c, t, h0, g0, n3⟩ := q
  obtain ⟨p, k, kp, h1, h2, h3, h4, h5, -, h7⟩ := Cond.superclass_spec h0 w
  obtain ⟨t', k', g1, g2, g5, g7, -, -⟩ := Cond.instantiable_spec wk
  cases g0.symm.trans g1
  have ne := ids_ne h0 g0 hn
  have g8 : k'.isInterface = false := (Bool.or_eq_false_iff.mp g7).1
  refine ⟨c, t, h0, g0, ?_⟩
  show Z.vm.assignableAux (255 + 1) c t = false
  simp [Vm.assignableAux, ne, h2, g2, h5, g5, g8, Vm.isSubclass, n3]
theorem len_lt {args : Array Value} {first s : State} {o : Option Outcome} {idx : List Nat} {t : Term} {y : Addr} {cl : Cell} {n : Int32} (ht : t.eval args first o idx s = some (.ref y)) (ha : s.arrayAt? y = some cl) (q : (Term.length t).eval args first o idx s = some (.int n)) : cl.slots.size < 2 ^ 31 ∧ cl.slots.size.toInt32 = n := by
  by_cases r : cl.slots.size < 2 ^ 31
  · rw [len_f ht ha r] at q
    cases q
    exact ⟨r, rfl⟩
  · simp [Term.eval, ht, ha, r] at q
theorem rem3 (y : Int32) (q : 0 ≤ y.toInt) : y % (3 : Int32) = 0 ∨ y % (3 : Int32) = 1 ∨ y % (3 : Int32) = 2 := by
  have r := (c_irem y 3 3 (by decide)).1 q
  have e0 : (0 : Int32).toInt = 0 := by decide
  have e1 : (1 : Int32).toInt = 1 := by decide
  have e2 : (2 : Int32).toInt = 2 := by decide
  have : (y % (3 : Int32)).toInt = 0 ∨ (y % (3 : Int32)).toInt = 1 ∨ (y % (3 : Int32)).toInt = 2 := by omega
  rcases this with h | h | h
  · exact Or.inl (Int32.toInt_inj.mp (by rw [h, e0]))
  · exact Or.inr (Or.inl (Int32.toInt_inj.mp (by rw [h, e1])))
  · exact Or.inr (Or.inr (Int32.toInt_inj.mp (by rw [h, e2])))
theorem and_nn (y k : Int32) (q : 0 ≤ k.toInt) : 0 ≤ (y &&& k).toInt := (c_and y k q).1
def tx (n c0 c1 : Int32) : List Int32 := if n = 0 then [] else if n = 1 then [c0] else [c0, c1]
theorem tx0 {n c0 c1 : Int32} (q : n = 0) : [] = tx n c0 c1 := by simp [tx, q]
theorem tx1 {n c0 c1 : Int32} (q0 : ¬ n = 0) (q : n = 1) : [c0] = tx n c0 c1 := by simp [tx, q]
theorem tx2 {n c0 c1 : Int32} (q0 : ¬ n = 0) (q : ¬ n = 1) : [c0, c1] = tx n c0 c1 := by simp [tx, q0, q]
abbrev R3 (n : Int32) : Prop := n = 0 ∨ n = 1 ∨ n = 2
theorem lt12 {n : Int32} (q : n < (1 : Int32)) : n < (2 : Int32) := by
  rw [Int32.lt_iff_toInt_lt] at q ⊢
  have e1 : (1 : Int32).toInt = 1 := by decide
  have e2 : (2 : Int32).toInt = 2 := by decide
  omega
theorem sb1 {n n' a b a' b' : Int32} (r : R3 n) (q : n = n') (q1 : n < (1 : Int32) ∨ a = a') (q2 : n < (2 : Int32) ∨ b = b') : tx n a b = tx n' a' b' := by
  subst q
  rcases r with rfl | rfl | rfl
  · rfl
  · have e : a = a' := q1.resolve_left (by decide)
    subst e; rfl
  · have e : a = a' := q1.resolve_left (by decide)
    have f : b = b' := q2.resolve_left (by decide)
    subst e f; rfl
theorem sb0a {n n' a b a' b' : Int32} (r : R3 n) (r' : R3 n') (q : ¬ n = n') : ¬ tx n a b = tx n' a' b' := by
  intro e
  rcases r with rfl | rfl | rfl <;> rcases r' with rfl | rfl | rfl <;> first | exact q rfl | (simp [tx] at e)
theorem sb0b {n n' a b a' b' : Int32} (r : R3 n) (q : n = n') (q1 : ¬ n < (1 : Int32)) (q2 : ¬ a = a') : ¬ tx n a b = tx n' a' b' := by
  subst q
  intro e
  rcases r with rfl | rfl | rfl
  · exact q1 (by decide)
  · exact q2 (by simpa [tx] using e)
  · have : a = a' ∧ b = b' := by simpa [tx] using e
    exact q2 this.1
theorem sb0c {n n' a b a' b' : Int32} (r : R3 n) (q : n = n') (q1 : ¬ n < (2 : Int32)) (q2 : ¬ b = b') : ¬ tx n a b = tx n' a' b' := by
  subst q
  intro e
  rcases r with rfl | rfl | rfl
  · exact q1 (by decide)
  · exact q1 (by decide)
  · have : a = a' ∧ b = b' := by simpa [tx] using e
    exact q2 this.2
def s_cache (Z : State) : Addr := (((Term.static "java/lang/Integer$IntegerCache" "cache" "[Ljava/lang/Integer;").eval #[] Z none [] Z).bind refO).getD 0
theorem ic_st {Z : State} {a0 : Array Value} (G : GH Z a0) : (Term.static "java/lang/Integer$IntegerCache" "cache" "[Ljava/lang/Integer;").eval a0 Z none [] Z = some (.ref (s_cache Z)) := by
  obtain ⟨a, ea⟩ := arr_v (Cond.before_iff.mp (jk G 13 rfl))
  have r : s_cache Z = a := by
    unfold s_cache
    rw [show (Term.static "java/lang/Integer$IntegerCache" "cache" "[Ljava/lang/Integer;").eval #[] Z none [] Z = some (.ref a) from ea]
    rfl
  rw [r]; exact ea
theorem ic_sta {Z : State} {a0 : Array Value} (G : GH Z a0) : Sta Z Z.heap "java/lang/Integer$IntegerCache" "cache" "[Ljava/lang/Integer;" (.ref (s_cache Z)) := Sta.start (ic_st G) (Or.inr ⟨wk G 82 rfl, jk G 11 rfl⟩)
theorem ic_high {Z : State} {a0 : Array Value} (G : GH Z a0) : Sta Z Z.heap "java/lang/Integer$IntegerCache" "high" "I" (.int 127) := by
  have q := Cond.before_iff.mp (jk G 12 rfl)
  obtain ⟨v, e1, e2⟩ := static_fit (ty := .int) G.2.2.2.2 (jk G 9 rfl) (by decide)
  obtain ⟨y, rfl⟩ := fit_I e2 (Or.inl rfl)
  have r := gotT (Cond.eq_ints e1 (Term.int_eval 127)) q
  subst r
  exact Sta.start e1 (Or.inl (jk G 10 rfl))
theorem ic_at {Z : State} {a0 : Array Value} (G : GH Z a0) {h : Heap} (O : Old Z Z.heap.size h) {j : Int32} (h0 : ¬ j < 0) (h1 : j < (256 : Int32)) : ∃ (kA : ClassId) (vs : List Value) (r : Addr), Arv Z h (s_cache Z) kA (.object "java/lang/Integer") (256 : Int32) vs .null ∧ vs.getD j.toNatClampNeg .null = .ref r ∧ Exa Z h r "java/lang/Integer" := by
  obtain ⟨c, A⟩ := Arr.start (ic_st G) (Cond.before_iff.mp (jk G 13 rfl))
  obtain ⟨u, w, e1, e2, -, -⟩ := cmp_v (Or.inl (Cond.before_iff.mp (jk G 15 rfl)))
  obtain ⟨y, ey⟩ : ∃ y, u = .int y := by
    have q := eqv_i (Term.int_eval (256 : Int32)) (Cond.before_iff.mp (jk G 15 rfl))
    rw [q] at e1
    exact ⟨_, (Option.some.inj e1).symm⟩
  have q := eqv_i (Term.int_eval (256 : Int32)) (Cond.before_iff.mp (jk G 15 rfl))
  obtain ⟨l1, l2⟩ := len_lt (ic_st G) (A.fin (Vm.Alike.refl _)) q
  have B := Bxs.start (F := Term.sub (Term.index 0) (Term.int 128)) (val := fun k => .int (k - 128)) (fun idx => ic_st G) A l1 l2 (by decide) (Cond.before_iff.mp (jk G 16 rfl)) (fun X k hk hq => eqv_i (Term.sub_int (idx_at hk) (Term.int_eval 128)) hq)
  obtain ⟨B1, B2, B3, B4⟩ := B
  have hin : ¬ (j < 0 ∨ c.slots.size ≤ j.toNatClampNeg) := inb_of B2 ⟨h0, h1⟩
  obtain ⟨r, r1, r2, -⟩ := B4 j hin
  refine ⟨c.cls, c.slots.toList, r, ⟨c, B1.ext O.2, rfl, B2, B3, fun k hk => ?_, fun k hk => ?_⟩, ?_, r2.ext O.2⟩
  · simp [Array.getElem?_eq_getElem hk, List.getD_eq_getElem?_getD]
  · obtain ⟨b, b1, -⟩ := B4 (Int32.ofNat k) (by rw [show Int32.ofNat k = k.toInt32 from rfl]; exact idx_in hk l1)
    have e3 : (Int32.ofNat k).toNatClampNeg = k := by
      have e4 := len_toInt (n := k) (Nat.lt_trans hk l1)
      show (k.toInt32).toNatClampNeg = k
      unfold Int32.toNatClampNeg
      rw [e4]; rfl
    rw [e3] at b1
    rw [show c.slots.toList.getD k .null = .ref b from by simp [List.getD_eq_getElem?_getD, b1]]
    rfl
  · simp [List.getD_eq_getElem?_getD, r1]
theorem ic_rng {v : Int32} (q0 : ¬ v < (-128 : Int32)) (q1 : ¬ (127 : Int32) < v) : ¬ (v + (128 : Int32)) < 0 ∧ (v + (128 : Int32)) < (256 : Int32) := by
  rw [Int32.lt_iff_toInt_lt] at q0 q1 ⊢
  rw [Int32.lt_iff_toInt_lt]
  have r := c_iadd v 128
  have r2 := rng32 (v + 128)
  have e1 : (-128 : Int32).toInt = -128 := by decide
  have e2 : (127 : Int32).toInt = 127 := by decide
  have e3 : (128 : Int32).toInt = 128 := by decide
  have e4 : (0 : Int32).toInt = 0 := by decide
  have e5 : (256 : Int32).toInt = 256 := by decide
  constructor <;> omega
theorem d1_0 : decode jdk_43_method_3_code 0 = .ok (.iload_n 0, 1) := by decide +kernel
theorem d1_1 : decode jdk_43_method_3_code 1 = .ok (.sipush 255, 3) := by decide +kernel
theorem d1_4 : decode jdk_43_method_3_code 4 = .ok (.if_icmp .gt 7, 3) := by decide +kernel
theorem d1_7 : decode jdk_43_method_3_code 7 = .ok (.iconst 1, 1) := by decide +kernel
theorem d1_8 : decode jdk_43_method_3_code 8 = .ok (.goto 4, 3) := by decide +kernel
theorem d1_12 : decode jdk_43_method_3_code 12 = .ok (.ireturn, 1) := by decide +kernel
theorem pn1 : plainName "java/lang/StringLatin1" = true := by first | (simp [plainName, overriddenIn]; done) | decide +kernel
theorem d2_0 : decode jdk_43_method_46_code 0 = .ok (.iconst 1, 1) := by decide +kernel
theorem d2_1 : decode jdk_43_method_46_code 1 = .ok (.newarray .byte, 2) := by decide +kernel
theorem d2_3 : decode jdk_43_method_46_code 3 = .ok (.dup, 1) := by decide +kernel
theorem d2_4 : decode jdk_43_method_46_code 4 = .ok (.iconst 0, 1) := by decide +kernel
theorem d2_5 : decode jdk_43_method_46_code 5 = .ok (.iload_n 0, 1) := by decide +kernel
theorem d2_6 : decode jdk_43_method_46_code 6 = .ok (.i2b, 1) := by decide +kernel
theorem d2_7 : decode jdk_43_method_46_code 7 = .ok (.bastore, 1) := by decide +kernel
theorem d2_8 : decode jdk_43_method_46_code 8 = .ok (.areturn, 1) := by decide +kernel
theorem d3_0 : decode jdk_42_method_151_code 0 = .ok (.aload_n 0, 1) := by decide +kernel
theorem d3_1 : decode jdk_42_method_151_code 1 = .ok (.invokespecial 1, 3) := by decide +kernel
theorem d3_4 : decode jdk_42_method_151_code 4 = .ok (.aload_n 0, 1) := by decide +kernel
theorem d3_5 : decode jdk_42_method_151_code 5 = .ok (.aload_n 1, 1) := by decide +kernel
theorem d3_6 : decode jdk_42_method_151_code 6 = .ok (.putfield 9, 3) := by decide +kernel
theorem d3_9 : decode jdk_42_method_151_code 9 = .ok (.aload_n 0, 1) := by decide +kernel
theorem d3_10 : decode jdk_42_method_151_code 10 = .ok (.iload_n 2, 1) := by decide +kernel
theorem d3_11 : decode jdk_42_method_151_code 11 = .ok (.putfield 15, 3) := by decide +kernel
theorem d3_14 : decode jdk_42_method_151_code 14 = .ok (.return_, 1) := by decide +kernel
theorem pn2 : plainName "java/lang/String" = true := by first | (simp [plainName, overriddenIn]; done) | decide +kernel
theorem d4_0 : decode jdk_42_method_139_code 0 = .ok (.getstatic 38, 3) := by decide +kernel
theorem d4_3 : decode jdk_42_method_139_code 3 = .ok (.ifCond .eq 23, 3) := by decide +kernel
theorem d4_6 : decode jdk_42_method_139_code 6 = .ok (.iload_n 0, 1) := by decide +kernel
theorem pd1 : parseMethodDescriptor "(C)Z" = some ⟨[.char], some .boolean⟩ := by decide +kernel
theorem d4_7 : decode jdk_42_method_139_code 7 = .ok (.invokestatic 1015, 3) := by decide +kernel
theorem d4_10 : decode jdk_42_method_139_code 10 = .ok (.ifCond .eq 16, 3) := by decide +kernel
theorem d4_13 : decode jdk_42_method_139_code 13 = .ok (.new 10, 3) := by decide +kernel
theorem d4_16 : decode jdk_42_method_139_code 16 = .ok (.dup, 1) := by decide +kernel
theorem d4_17 : decode jdk_42_method_139_code 17 = .ok (.iload_n 0, 1) := by decide +kernel
theorem pd2 : parseMethodDescriptor "(C)[B" = some ⟨[.char], some (.array .byte)⟩ := by decide +kernel
theorem d4_18 : decode jdk_42_method_139_code 18 = .ok (.invokestatic 1018, 3) := by decide +kernel
theorem d4_21 : decode jdk_42_method_139_code 21 = .ok (.iconst 0, 1) := by decide +kernel
theorem pd3 : parseMethodDescriptor "([BB)V" = some ⟨[(.array .byte), .byte], none⟩ := by decide +kernel
theorem d4_22 : decode jdk_42_method_139_code 22 = .ok (.invokespecial 209, 3) := by decide +kernel
theorem d4_25 : decode jdk_42_method_139_code 25 = .ok (.areturn, 1) := by decide +kernel
theorem d5_0 : decode jdk_42_method_66_code 0 = .ok (.aload_n 0, 1) := by decide +kernel
theorem d5_1 : decode jdk_42_method_66_code 1 = .ok (.aload_n 1, 1) := by decide +kernel
theorem d5_2 : decode jdk_42_method_66_code 2 = .ok (.if_acmp .ne 5, 3) := by decide +kernel
theorem d5_5 : decode jdk_42_method_66_code 5 = .ok (.iconst 1, 1) := by decide +kernel
theorem d5_6 : decode jdk_42_method_66_code 6 = .ok (.ireturn, 1) := by decide +kernel
theorem d6_0 : decode method_2_code 0 = .ok (.iload_n 0, 1) := by decide +kernel
theorem d6_1 : decode method_2_code 1 = .ok (.ifCond .ne 6, 3) := by decide +kernel
theorem d6_4 : decode method_2_code 4 = .ok (.ldc 7, 2) := by decide +kernel
theorem d6_6 : decode method_2_code 6 = .ok (.areturn, 1) := by decide +kernel
theorem d6_7 : decode method_2_code 7 = .ok (.iload_n 0, 1) := by decide +kernel
theorem d6_8 : decode method_2_code 8 = .ok (.iconst 1, 1) := by decide +kernel
theorem d6_9 : decode method_2_code 9 = .ok (.if_icmp .ne 8, 3) := by decide +kernel
theorem d6_12 : decode method_2_code 12 = .ok (.iload_n 1, 1) := by decide +kernel
theorem pd4 : parseMethodDescriptor "(C)Ljava/lang/String;" = some ⟨[.char], some (.object "java/lang/String")⟩ := by decide +kernel
theorem d6_13 : decode method_2_code 13 = .ok (.invokestatic 9, 3) := by decide +kernel
theorem d6_16 : decode method_2_code 16 = .ok (.areturn, 1) := by decide +kernel
theorem d6_17 : decode method_2_code 17 = .ok (.iconst 2, 1) := by decide +kernel
theorem d6_18 : decode method_2_code 18 = .ok (.newarray .char, 2) := by decide +kernel
theorem d6_20 : decode method_2_code 20 = .ok (.astore_n 3, 1) := by decide +kernel
theorem d6_21 : decode method_2_code 21 = .ok (.aload_n 3, 1) := by decide +kernel
theorem d6_22 : decode method_2_code 22 = .ok (.iconst 0, 1) := by decide +kernel
theorem d6_23 : decode method_2_code 23 = .ok (.iload_n 1, 1) := by decide +kernel
theorem d6_24 : decode method_2_code 24 = .ok (.castore, 1) := by decide +kernel
theorem d6_25 : decode method_2_code 25 = .ok (.aload_n 3, 1) := by decide +kernel
theorem d6_26 : decode method_2_code 26 = .ok (.iconst 1, 1) := by decide +kernel
theorem d6_27 : decode method_2_code 27 = .ok (.iload_n 2, 1) := by decide +kernel
theorem d6_28 : decode method_2_code 28 = .ok (.castore, 1) := by decide +kernel
theorem d6_29 : decode method_2_code 29 = .ok (.new 10, 3) := by decide +kernel
theorem d6_32 : decode method_2_code 32 = .ok (.dup, 1) := by decide +kernel
theorem d6_33 : decode method_2_code 33 = .ok (.aload_n 3, 1) := by decide +kernel
theorem pd5 : parseMethodDescriptor "([C)V" = some ⟨[(.array .char)], none⟩ := by decide +kernel
theorem d6_34 : decode method_2_code 34 = .ok (.invokespecial 15, 3) := by decide +kernel
theorem d6_37 : decode method_2_code 37 = .ok (.areturn, 1) := by decide +kernel
theorem pn3 : plainName "com/example/onceward/onceward/HostPortEqualsPinLaw" = true := by first | (simp [plainName, overriddenIn]; done) | decide +kernel
theorem d7_0 : decode prog_9_method_1_code 0 = .ok (.aload_n 0, 1) := by decide +kernel
theorem d7_1 : decode prog_9_method_1_code 1 = .ok (.invokespecial 1, 3) := by decide +kernel
theorem d7_4 : decode prog_9_method_1_code 4 = .ok (.aload_n 0, 1) := by decide +kernel
theorem d7_5 : decode prog_9_method_1_code 5 = .ok (.aload_n 1, 1) := by decide +kernel
theorem d7_6 : decode prog_9_method_1_code 6 = .ok (.putfield 7, 3) := by decide +kernel
theorem d7_9 : decode prog_9_method_1_code 9 = .ok (.aload_n 0, 1) := by decide +kernel
theorem d7_10 : decode prog_9_method_1_code 10 = .ok (.iload_n 2, 1) := by decide +kernel
theorem d7_11 : decode prog_9_method_1_code 11 = .ok (.putfield 13, 3) := by decide +kernel
theorem d7_14 : decode prog_9_method_1_code 14 = .ok (.return_, 1) := by decide +kernel
theorem pn4 : plainName "com/example/onceward/onceward/HostPort" = true := by first | (simp [plainName, overriddenIn]; done) | decide +kernel
theorem d8_0 : decode jdk_18_method_1_code 0 = .ok (.aload_n 0, 1) := by decide +kernel
theorem d8_1 : decode jdk_18_method_1_code 1 = .ok (.invokespecial 1, 3) := by decide +kernel
theorem d8_4 : decode jdk_18_method_1_code 4 = .ok (.return_, 1) := by decide +kernel
theorem pn5 : plainName "java/lang/Number" = true := by first | (simp [plainName, overriddenIn]; done) | decide +kernel
theorem d9_0 : decode jdk_33_method_23_code 0 = .ok (.aload_n 0, 1) := by decide +kernel
theorem pd6 : parseMethodDescriptor "()V" = some ⟨[], none⟩ := by decide +kernel
theorem d9_1 : decode jdk_33_method_23_code 1 = .ok (.invokespecial 202, 3) := by decide +kernel
theorem d9_4 : decode jdk_33_method_23_code 4 = .ok (.aload_n 0, 1) := by decide +kernel
theorem d9_5 : decode jdk_33_method_23_code 5 = .ok (.iload_n 1, 1) := by decide +kernel
theorem d9_6 : decode jdk_33_method_23_code 6 = .ok (.putfield 205, 3) := by decide +kernel
theorem d9_9 : decode jdk_33_method_23_code 9 = .ok (.return_, 1) := by decide +kernel
theorem pn6 : plainName "java/lang/Integer" = true := by first | (simp [plainName, overriddenIn]; done) | decide +kernel
theorem d10_0 : decode jdk_33_method_22_code 0 = .ok (.iload_n 0, 1) := by decide +kernel
theorem d10_1 : decode jdk_33_method_22_code 1 = .ok (.bipush (-128), 2) := by decide +kernel
theorem d10_3 : decode jdk_33_method_22_code 3 = .ok (.if_icmp .lt 20, 3) := by decide +kernel
theorem d10_23 : decode jdk_33_method_22_code 23 = .ok (.new 1, 3) := by decide +kernel
theorem d10_26 : decode jdk_33_method_22_code 26 = .ok (.dup, 1) := by decide +kernel
theorem d10_27 : decode jdk_33_method_22_code 27 = .ok (.iload_n 0, 1) := by decide +kernel
theorem pd7 : parseMethodDescriptor "(I)V" = some ⟨[.int], none⟩ := by decide +kernel
theorem d10_28 : decode jdk_33_method_22_code 28 = .ok (.invokespecial 199, 3) := by decide +kernel
theorem d10_31 : decode jdk_33_method_22_code 31 = .ok (.areturn, 1) := by decide +kernel
theorem d10_6 : decode jdk_33_method_22_code 6 = .ok (.iload_n 0, 1) := by decide +kernel
theorem d10_7 : decode jdk_33_method_22_code 7 = .ok (.getstatic 191, 3) := by decide +kernel
theorem d10_10 : decode jdk_33_method_22_code 10 = .ok (.if_icmp .gt 13, 3) := by decide +kernel
theorem d10_13 : decode jdk_33_method_22_code 13 = .ok (.getstatic 195, 3) := by decide +kernel
theorem d10_16 : decode jdk_33_method_22_code 16 = .ok (.iload_n 0, 1) := by decide +kernel
theorem d10_17 : decode jdk_33_method_22_code 17 = .ok (.sipush 128, 3) := by decide +kernel
theorem d10_20 : decode jdk_33_method_22_code 20 = .ok (.iadd, 1) := by decide +kernel
theorem d10_21 : decode jdk_33_method_22_code 21 = .ok (.aaload, 1) := by decide +kernel
theorem d10_22 : decode jdk_33_method_22_code 22 = .ok (.areturn, 1) := by decide +kernel
theorem d11_0 : decode prog_9_method_5_code 0 = .ok (.aload_n 1, 1) := by decide +kernel
theorem d11_1 : decode prog_9_method_5_code 1 = .ok (.instanceof 8, 3) := by decide +kernel
theorem d11_4 : decode prog_9_method_5_code 4 = .ok (.ifCond .eq 38, 3) := by decide +kernel
theorem d11_7 : decode prog_9_method_5_code 7 = .ok (.aload_n 0, 1) := by decide +kernel
theorem d11_8 : decode prog_9_method_5_code 8 = .ok (.getfield 7, 3) := by decide +kernel
theorem d11_11 : decode prog_9_method_5_code 11 = .ok (.aload_n 1, 1) := by decide +kernel
theorem d11_12 : decode prog_9_method_5_code 12 = .ok (.checkcast 8, 3) := by decide +kernel
theorem d11_15 : decode prog_9_method_5_code 15 = .ok (.getfield 7, 3) := by decide +kernel
theorem pd8 : parseMethodDescriptor "(Ljava/lang/Object;)Z" = some ⟨[(.object "java/lang/Object")], some .boolean⟩ := by decide +kernel
theorem d11_18 : decode prog_9_method_5_code 18 = .ok (.invokevirtual 68, 3) := by decide +kernel
theorem d11_21 : decode prog_9_method_5_code 21 = .ok (.ifCond .eq 21, 3) := by decide +kernel
theorem d11_24 : decode prog_9_method_5_code 24 = .ok (.aload_n 0, 1) := by decide +kernel
theorem d11_25 : decode prog_9_method_5_code 25 = .ok (.getfield 13, 3) := by decide +kernel
theorem d11_28 : decode prog_9_method_5_code 28 = .ok (.aload_n 1, 1) := by decide +kernel
theorem d11_29 : decode prog_9_method_5_code 29 = .ok (.checkcast 8, 3) := by decide +kernel
theorem d11_32 : decode prog_9_method_5_code 32 = .ok (.getfield 13, 3) := by decide +kernel
theorem d11_35 : decode prog_9_method_5_code 35 = .ok (.if_icmp .ne 7, 3) := by decide +kernel
theorem d11_38 : decode prog_9_method_5_code 38 = .ok (.iconst 1, 1) := by decide +kernel
theorem d11_39 : decode prog_9_method_5_code 39 = .ok (.goto 4, 3) := by decide +kernel
theorem d11_43 : decode prog_9_method_5_code 43 = .ok (.ireturn, 1) := by decide +kernel
theorem d11_42 : decode prog_9_method_5_code 42 = .ok (.iconst 0, 1) := by decide +kernel
theorem pd9 : parseMethodDescriptor "(ICC)Ljava/lang/String;" = some ⟨[.int, .char, .char], some (.object "java/lang/String")⟩ := by decide +kernel
theorem pd10 : parseMethodDescriptor "(Ljava/lang/String;I)V" = some ⟨[(.object "java/lang/String"), .int], none⟩ := by decide +kernel
theorem pd11 : parseMethodDescriptor "(I)Ljava/lang/Integer;" = some ⟨[.int], some (.object "java/lang/Integer")⟩ := by decide +kernel
theorem ef_canenc (m : MethodId) (c : Int32)  : entryFrame m #[(.int c)] 1 = mkF m 0 #[.val (.int c)] [] := by first | (simp [entryFrame, mkF, argsToLocals, Value.category]; done) | rfl
def Q_canenc (Z : State) (c : Int32)  (h0 : Heap) (xv : Value) (h : Heap) : Prop := (.int (1 : Int32)) = xv ∧ h0 = h
set_option maxRecDepth 65536 in
set_option maxHeartbeats 40000000 in
theorem c_canenc (l : Launch) {Z : State} {a0 : Array Value} (G : GH Z a0) (c : Int32)  (h0 : Heap) (O0 : Old Z Z.heap.size h0) (p1 : C8 c) : Con false [] l Z (⟨"java/lang/StringLatin1", "canEncode", "(C)Z"⟩ : MethodName) jdk_43_method_3_code 1 (some .boolean) [] ({ frames := 0, cells := 0, slots := 0, locals := 0 } : Room) #[(.int c)] h0 [] (rvl (Q_canenc Z c h0)) := by
  refine con_of (a0 := a0) (plainFor_of_name pn1) (fun q => rfl) EW.nil O0 (fun m => ef_canenc m c) ?_
  intro p_ e_ s_ m_ below_ meth_ c_ hby hml hret hlk hnm
  refine go_iload_n (pc' := 1) (hb hby d1_0) rfl rfl ?_
  refine go_sipush (pc' := 4) (v := 255) (hb hby d1_1) rfl rfl ?_
  refine go_icF (pc' := 7) (hb hby d1_4) rfl (XT.ii_gt_f p1.2) ?_
  refine go_iconst (pc' := 8) (v := 1) (hb hby d1_7) rfl rfl ?_
  refine go_goto (pc' := 12) (hb hby d1_8) (by decide) rfl ?_
  refine go_ireturn hret hlk rfl (by simp) (hb hby d1_12) (by decide) (by decide) ⟨_, rfl, ⟨rfl, rfl⟩⟩ (Keep.refl h0 [])
theorem ef_tobytes (m : MethodId) (c : Int32)  : entryFrame m #[(.int c)] 1 = mkF m 0 #[.val (.int c)] [] := by first | (simp [entryFrame, mkF, argsToLocals, Value.category]; done) | rfl
def Q_tobytes (Z : State) (c : Int32)  (h0 : Heap) (xv : Value) (h : Heap) : Prop := ∃ (r : Addr) (k : ClassId), (.ref r) = xv ∧ h0.size ≤ r ∧ Arv Z h r k (.byte) (1 : Int32) [(.int (c).toInt8.toInt32)] (.int 0)
set_option maxRecDepth 65536 in
set_option maxHeartbeats 40000000 in
theorem c_tobytes (l : Launch) {Z : State} {a0 : Array Value} (G : GH Z a0) (c : Int32)  (h0 : Heap) (O0 : Old Z Z.heap.size h0)  : Con false [] l Z (⟨"java/lang/StringLatin1", "toBytes", "(C)[B"⟩ : MethodName) jdk_43_method_46_code 1 (some (.array .byte)) [] ({ frames := 0, cells := 1, slots := 1, locals := 0 } : Room) #[(.int c)] h0 [] (rvl (Q_tobytes Z c h0)) := by
  refine con_of (a0 := a0) (plainFor_of_name pn1) (fun q => rfl) EW.nil O0 (fun m => ef_tobytes m c) ?_
  intro p_ e_ s_ m_ below_ meth_ c_ hby hml hret hlk hnm
  refine go_iconst (pc' := 1) (v := 1) (hb hby d2_0) rfl rfl ?_
  refine go_newP (pc' := 3) (cells' := 1) (slots' := 1) (cap := 1) (vs := [(.int (0 : Int32))]) (ty := .byte) (dv := .int 0) (wk G 10 rfl) rfl rfl (hb hby d2_1) rfl (by decide) rfl (by decide) rfl rfl rfl (by decide) (by decide) (fun h1 a2 k6 g3 X4 A5 => ?_)
  refine go_dup (pc' := 4) (hb hby d2_3) rfl rfl ?_
  refine go_iconst (pc' := 5) (v := 0) (hb hby d2_4) rfl rfl ?_
  refine go_iload_n (pc' := 6) (hb hby d2_5) rfl rfl ?_
  refine go_i2b (pc' := 7) (z := (c).toInt8.toInt32) (hb hby d2_6) rfl rfl ?_
  refine go_stB (pc' := 8) (i := 0) (x' := (c).toInt8.toInt32) (vs' := [(.int (c).toInt8.toInt32)]) rfl A5 (Nat.le_trans O0.2.1 (Nat.le_of_eq g3)) (by decide) (by decide) rfl (Nat.le_of_ble_eq_true rfl) (i2b_i2b _) rfl (hb hby d2_7) rfl (fun h7 W8 A9 => ?_)
  have K10 : Keep h0 h1 [] := ((Keep.refl h0 []).ext X4)
  have K11 : Keep h0 h7 [] := (K10.wr W8 (Or.inr (Nat.le_of_eq g3)))
  refine go_areturn hret hlk rfl rfl (hb hby d2_8) (by decide) (by decide) ⟨_, rfl, ⟨a2, k6, rfl, (Nat.le_of_eq g3), A9⟩⟩ K11
theorem ef_strbb (m : MethodId) (a : Addr) (t : Addr)  : entryFrame m #[(.ref a), (.ref t), (.int (0 : Int32))] 3 = mkF m 0 #[.val (.ref a), .val (.ref t), .val (.int (0 : Int32))] [] := by first | (simp [entryFrame, mkF, argsToLocals, Value.category]; done) | rfl
def Q_strbb (Z : State) (a : Addr) (t : Addr)  (h0 : Heap) (h : Heap) : Prop := Fld Z h a "java/lang/String" "value" "[B" (.ref t) ∧ Fld Z h a "java/lang/String" "coder" "B" (.int (0 : Int32))
set_option maxRecDepth 65536 in
set_option maxHeartbeats 40000000 in
theorem c_strbb (l : Launch) {Z : State} {a0 : Array Value} (G : GH Z a0) (a : Addr) (t : Addr)  (h0 : Heap) (O0 : Old Z Z.heap.size h0) (p1 : Exa Z h0 a "java/lang/String") (p2 : Z.heap.size ≤ a) (p3 : Fld Z h0 a "java/lang/String" "value" "[B" .null) (p4 : Fld Z h0 a "java/lang/String" "coder" "B" (.int (0 : Int32))) : Con false [] l Z (⟨"java/lang/String", "<init>", "([BB)V"⟩ : MethodName) jdk_42_method_151_code 3 none [] ({ frames := 1, cells := 0, slots := 0, locals := 12 } : Room) #[(.ref a), (.ref t), (.int (0 : Int32))] h0 [a] (rno (Q_strbb Z a t h0)) := by
  refine con_of (a0 := a0) (plainFor_of_name pn2) (fun q => rfl) EW.nil O0 (fun m => ef_strbb m a t) ?_
  intro p_ e_ s_ m_ below_ meth_ c_ hby hml hret hlk hnm
  refine go_aload_n (pc' := 1) (hb hby d3_0) rfl rfl rfl ?_
  refine go_initO (pc' := 4) (Wd := 0) (wk G 46 rfl) (wk G 19 rfl) (wk G 20 rfl) (by rw [hml]; rfl) (by decide) (by decide) (by decide) (hb hby d3_1) rfl ?_
  refine go_aload_n (pc' := 5) (hb hby d3_4) rfl rfl rfl ?_
  refine go_aload_n (pc' := 6) (hb hby d3_5) rfl rfl rfl ?_
  refine go_putF (pc' := 9) (wk G 59 rfl) Via.refl p3 p1 (Or.inr ⟨(wk G 11 rfl), rfl, hnm⟩) (wk G 9 rfl) (ty := (.array .byte)) (v' := (.ref t)) (by decide) rfl rfl p2 (Or.inr rfl) (hb hby d3_6) rfl (fun h1 W2 => ?_)
  have F3 := Fld.same W2 p3
  refine go_aload_n (pc' := 10) (hb hby d3_9) rfl rfl rfl ?_
  refine go_iload_n (pc' := 11) (hb hby d3_10) rfl rfl ?_
  have F4 := (p4.other W2 (Or.inr (slot_ne (t := .byte) (t' := (.array .byte)) (Or.inr (wk G 12 rfl)) (Or.inr (wk G 11 rfl)) (by decide) (by decide) (by decide))))
  have E5 := (p1.wr W2)
  refine go_putF (pc' := 14) (wk G 58 rfl) Via.refl F4 E5 (Or.inr ⟨(wk G 12 rfl), rfl, hnm⟩) (wk G 9 rfl) (ty := .byte) (v' := (.int (0 : Int32))) (by decide) rfl (by decide) p2 (Or.inr rfl) (hb hby d3_11) rfl (fun h6 W7 => ?_)
  have F8 := Fld.same W7 F4
  have K9 : Keep h0 h1 [a] := ((Keep.refl h0 [a]).wr W2 (Or.inl (by simp)))
  have K10 : Keep h0 h6 [a] := (K9.wr W7 (Or.inl (by simp)))
  have F11 := (F3.other W7 (Or.inr (slot_ne (t := (.array .byte)) (t' := .byte) (Or.inr (wk G 11 rfl)) (Or.inr (wk G 12 rfl)) (by decide) (by decide) (by decide))))
  refine go_return hret hlk (hb hby d3_14) (by decide) (by decide) ⟨rfl, ⟨F11, F8⟩⟩ K10
theorem ef_valueof (m : MethodId) (c : Int32)  : entryFrame m #[(.int c)] 1 = mkF m 0 #[.val (.int c)] [] := by first | (simp [entryFrame, mkF, argsToLocals, Value.category]; done) | rfl
def Q_valueof (Z : State) (c : Int32)  (h0 : Heap) (xv : Value) (h : Heap) : Prop := ∃ (r : Addr), (.ref r) = xv ∧ h0.size ≤ r ∧ Str Z h r [c]
set_option maxRecDepth 65536 in
set_option maxHeartbeats 40000000 in
theorem c_valueof (l : Launch) {Z : State} {a0 : Array Value} (G : GH Z a0) (c : Int32)  (h0 : Heap) (O0 : Old Z Z.heap.size h0) (p1 : C8 c) : Con false [] l Z (⟨"java/lang/String", "valueOf", "(C)Ljava/lang/String;"⟩ : MethodName) jdk_42_method_139_code 1 (some (.object "java/lang/String")) [] ({ frames := 2, cells := 2, slots := 5, locals := 27 } : Room) #[(.int c)] h0 [] (rvl (Q_valueof Z c h0)) := by
  refine con_of (a0 := a0) (plainFor_of_name pn2) (fun q => rfl) EW.nil O0 (fun m => ef_valueof m c) ?_
  intro p_ e_ s_ m_ below_ meth_ c_ hby hml hret hlk hnm
  obtain ⟨z1, s2, q3⟩ := cs_of G
  refine go_getS (pc' := 3) (wk G 47 rfl) (s2.ext O0.2) (hb hby d4_0) rfl ?_
  refine go_ifF (pc' := 6) (hb hby d4_3) rfl (XT.i0_eq_f q3) ?_
  refine go_iload_n (pc' := 7) (hb hby d4_6) rfl rfl ?_
  refine callS0 (cells' := 0) (slots' := 0) (Wd := 0) (argsL := [(.int c)]) (rest := []) (pay_of (a0 := a0) (c_canenc l G c h0 O0 p1) (wk G 70 rfl) (wk G 63 rfl) (by decide) (by decide)) (wk G 68 rfl) (wk G 69 rfl) (wk G 63 rfl) (wk G 70 rfl) (by decide) pd1 rfl rfl (by rw [hml]; rfl) (Nat.le_of_ble_eq_true rfl) rfl rfl (by decide) (by decide) all0 (fun _ _ => sf0) (hb hby d4_7) (k_v (pc' := 10) rfl ?_)
  rintro _ h4 ⟨rfl, rfl⟩ K5
  refine go_ifF (pc' := 13) (hb hby d4_10) rfl (by decide) ?_
  refine go_newO (pc' := 16) (cells' := 1) (slots' := 4) (wk G 60 rfl) (wk G 9 rfl) (wk G 8 rfl) (hb hby d4_13) rfl rfl rfl (by decide) (by decide) (fun h6 a7 g8 X9 E10 D11 U12 => ?_)
  refine go_dup (pc' := 17) (hb hby d4_16) rfl rfl ?_
  refine go_iload_n (pc' := 18) (hb hby d4_17) rfl rfl ?_
  refine go_old (fun O13 => ?_)
  refine callS0 (cells' := 2) (slots' := 5) (Wd := 2) (argsL := [(.int c)]) (rest := [(.ref a7), (.ref a7)]) (pay_of (a0 := a0) (c_tobytes l G c h6 O13 ) (wk G 73 rfl) (wk G 63 rfl) (by decide) (by decide)) (wk G 71 rfl) (wk G 72 rfl) (wk G 63 rfl) (wk G 73 rfl) (by decide) pd2 rfl rfl (by rw [hml]; rfl) (Nat.le_of_ble_eq_true rfl) rfl rfl (by decide) (by decide) all0 (fun _ _ => sf0) (hb hby d4_18) (k_v (pc' := 21) rfl ?_)
  rintro _ h14 ⟨r16, r17, rfl, f18, f19⟩ K15
  refine go_iconst (pc' := 22) (v := 0) (hb hby d4_21) rfl rfl ?_
  have K20 : Keep h6 h14 [] := ((Keep.refl h6 []).trans K15 all0)
  have E21 := (E10.keep K20)
  have F22 := D11 (Or.inr (wk G 11 rfl)) (ty := (.array .byte)) (by decide)
  have F23 := (F22.keep K20 nin0)
  have F24 := D11 (Or.inr (wk G 12 rfl)) (ty := .byte) (by decide)
  have F25 := (F24.keep K20 nin0)
  refine go_old (fun O26 => ?_)
  refine callI0 (cells' := 2) (slots' := 5) (Wd := 1) (argsL := [(.ref r16), (.int (0 : Int32))]) (rest := [(.ref a7)]) (pay_of (a0 := a0) (c_strbb l G a7 r16 h14 O26 E21 (Nat.le_trans O0.2.1 (Nat.le_of_eq g8)) F23 F25) (wk G 76 rfl) (wk G 8 rfl) (by decide) (by decide)) rfl (wk G 74 rfl) (wk G 75 rfl) (wk G 76 rfl) (by decide) pd3 rfl rfl (by rw [hml]; rfl) (Nat.le_of_ble_eq_true rfl) rfl rfl (by decide) (by decide) (allS (Nat.le_trans O0.2.1 (Nat.le_of_eq g8)) all0) (fun _ hal => (sfS safe_nil sf0)) (hb hby d4_22) (k_n (pc' := 25) rfl ?_)
  rintro  h27 ⟨f29, f30⟩ K28
  have K31 : Keep h0 h6 [] := ((Keep.refl h0 []).ext X9)
  have K32 : Keep h0 h14 [] := (K31.trans K15 all0)
  have K33 : Keep h0 h27 [] := (K32.trans K28 (allS (Or.inr (Nat.le_of_eq g8)) all0))
  have E34 := (E21.keep K28)
  have A35 := (f19.keep K28 (ninS (Nat.ne_of_gt (Nat.lt_of_lt_of_le E10.lt f18)) nin0))
  have S36 : Str Z h27 a7 [c] := ⟨r16, r17, E34, f29, f30, A35, (c8c p1 c8n), Nat.le_of_ble_eq_true rfl⟩
  refine go_areturn hret hlk rfl rfl (hb hby d4_25) (by decide) (by decide) ⟨_, rfl, ⟨a7, rfl, (Nat.le_of_eq g8), S36⟩⟩ K33
theorem ef_eqsame (m : MethodId) (a : Addr)  : entryFrame m #[(.ref a), (.ref a)] 3 = mkF m 0 #[.val (.ref a), .val (.ref a), .unset] [] := by first | (simp [entryFrame, mkF, argsToLocals, Value.category]; done) | rfl
def Q_eqsame (Z : State) (a : Addr)  (h0 : Heap) (xv : Value) (h : Heap) : Prop := (.int (1 : Int32)) = xv ∧ h0 = h
set_option maxRecDepth 65536 in
set_option maxHeartbeats 40000000 in
theorem c_eqsame (l : Launch) {Z : State} {a0 : Array Value} (G : GH Z a0) (a : Addr)  (h0 : Heap) (O0 : Old Z Z.heap.size h0)  : Con false [] l Z (⟨"java/lang/String", "equals", "(Ljava/lang/Object;)Z"⟩ : MethodName) jdk_42_method_66_code 3 (some .boolean) [] ({ frames := 0, cells := 0, slots := 0, locals := 0 } : Room) #[(.ref a), (.ref a)] h0 [] (rvl (Q_eqsame Z a h0)) := by
  refine con_of (a0 := a0) (plainFor_of_name pn2) (fun q => rfl) EW.nil O0 (fun m => ef_eqsame m a) ?_
  intro p_ e_ s_ m_ below_ meth_ c_ hby hml hret hlk hnm
  refine go_aload_n (pc' := 1) (hb hby d5_0) rfl rfl rfl ?_
  refine go_aload_n (pc' := 2) (hb hby d5_1) rfl rfl rfl ?_
  refine go_acF (pc' := 5) (hb hby d5_2) rfl rfl rfl (XT.aa_ne_f rfl) ?_
  refine go_iconst (pc' := 6) (v := 1) (hb hby d5_5) rfl rfl ?_
  refine go_ireturn hret hlk rfl (by simp) (hb hby d5_6) (by decide) (by decide) ⟨_, rfl, ⟨rfl, rfl⟩⟩ (Keep.refl h0 [])
theorem ef_text (m : MethodId) (n : Int32) (c : Int32) (d : Int32)  : entryFrame m #[(.int n), (.int c), (.int d)] 4 = mkF m 0 #[.val (.int n), .val (.int c), .val (.int d), .unset] [] := by first | (simp [entryFrame, mkF, argsToLocals, Value.category]; done) | rfl
def Q_text (Z : State) (n : Int32) (c : Int32) (d : Int32)  (h0 : Heap) (xv : Value) (h : Heap) : Prop := ∃ (r : Addr), (.ref r) = xv ∧ Str Z h r (tx n c d)
set_option maxRecDepth 65536 in
set_option maxHeartbeats 40000000 in
theorem c_text (l : Launch) {Z : State} {a0 : Array Value} (G : GH Z a0) (n : Int32) (c : Int32) (d : Int32)  (h0 : Heap) (O0 : Old Z Z.heap.size h0) (p1 : C8 c) (p2 : C8 d) : Con true EL1 l Z (⟨"com/example/onceward/onceward/HostPortEqualsPinLaw", "text", "(ICC)Ljava/lang/String;"⟩ : MethodName) method_2_code 4 (some (.object "java/lang/String")) [] ({ frames := 4, cells := 3, slots := 8, locals := 66 } : Room) #[(.int n), (.int c), (.int d)] h0 [] (rvl (Q_text Z n c d h0)) := by
  refine con_of (a0 := a0) (plainFor_of_name pn3) (fun q => nomatch q) (ew1 G) O0 (fun m => ef_text m n c d) ?_
  intro p_ e_ s_ m_ below_ meth_ c_ hby hml hret hlk hnm
  refine go_iload_n (pc' := 1) (hb hby d6_0) rfl rfl ?_
  by_cases c1 : n = (0 : Int32)
  · refine go_ifF (pc' := 4) (hb hby d6_1) rfl (XT.i0_ne_f c1) ?_
    refine go_ldcH (pc' := 6) (cells' := 2) (slots' := 4) (n := 0) (vs := (([] : List Int32).map fun c => c.toInt8.toInt32).map Value.int) (z := (0 : Int32)) rfl (by decide) (wk G 7 rfl) (wS G) (by decide +kernel) (by decide) (by decide) (by decide) (by decide) (hb hby d6_4) rfl rfl rfl (by decide) (by decide) (fun h2 a3 t5 k6 X4 E7 F8 F9 A10 => ?_)
    have S11 : Str Z h2 a3 [] := ⟨t5, k6, E7, F9, F8, A10, by decide, by decide⟩
    have K12 : Keep h0 h2 [] := ((Keep.refl h0 []).ext X4)
    refine go_areturn hret hlk rfl rfl (hb hby d6_6) (by decide) (by decide) ⟨_, rfl, ⟨a3, rfl, ((tx0 c1) ▸ S11)⟩⟩ K12
  · refine go_ifT (pc' := 7) (hb hby d6_1) (by decide) rfl (XT.i0_ne_t c1) ?_
    refine go_iload_n (pc' := 8) (hb hby d6_7) rfl rfl ?_
    refine go_iconst (pc' := 9) (v := 1) (hb hby d6_8) rfl rfl ?_
    by_cases c13 : n = (1 : Int32)
    · refine go_icF (pc' := 12) (hb hby d6_9) rfl (XT.ii_ne_f c13) ?_
      refine go_iload_n (pc' := 13) (hb hby d6_12) rfl rfl ?_
      refine callS0 (cells' := 2) (slots' := 5) (Wd := 0) (argsL := [(.int c)]) (rest := []) (pay_of (a0 := a0) (c_valueof l G c h0 O0 p1) (wk G 67 rfl) (wk G 8 rfl) (by decide) (by decide)) (wk G 65 rfl) (wk G 66 rfl) (wk G 8 rfl) (wk G 67 rfl) (by decide) pd4 rfl rfl (by rw [hml]; rfl) (Nat.le_of_ble_eq_true rfl) rfl rfl (by decide) (by decide) all0 (fun _ _ => sf0) (hb hby d6_13) (k_v (pc' := 16) rfl ?_)
      rintro _ h14 ⟨r16, rfl, f17, f18⟩ K15
      have K19 : Keep h0 h14 [] := ((Keep.refl h0 []).trans K15 all0)
      refine go_areturn hret hlk rfl rfl (hb hby d6_16) (by decide) (by decide) ⟨_, rfl, ⟨r16, rfl, ((tx1 c1 c13) ▸ f18)⟩⟩ K19
    · refine go_icT (pc' := 17) (hb hby d6_9) (by decide) rfl (XT.ii_ne_t c13) ?_
      refine go_iconst (pc' := 18) (v := 2) (hb hby d6_17) rfl rfl ?_
      refine go_newP (pc' := 20) (cells' := 1) (slots' := 2) (cap := 2) (vs := [(.int (0 : Int32)), (.int (0 : Int32))]) (ty := .char) (dv := .int 0) (wk G 37 rfl) rfl rfl (hb hby d6_18) rfl (by decide) rfl (by decide) rfl rfl rfl (by decide) (by decide) (fun h20 a21 k25 g22 X23 A24 => ?_)
      refine go_astore_n (pc' := 21) (ls' := #[.val (.int n), .val (.int c), .val (.int d), .val (.ref a21)]) (hb hby d6_20) rfl rfl rfl ?_
      refine go_aload_n (pc' := 22) (hb hby d6_21) rfl rfl rfl ?_
      refine go_iconst (pc' := 23) (v := 0) (hb hby d6_22) rfl rfl ?_
      refine go_iload_n (pc' := 24) (hb hby d6_23) rfl rfl ?_
      refine go_stC (pc' := 25) (i := 0) (x' := c) (vs' := [(.int c), (.int (0 : Int32))]) A24 (Nat.le_trans O0.2.1 (Nat.le_of_eq g22)) (by decide) (by decide) rfl (Nat.le_of_ble_eq_true rfl) (i2c_c8 p1) rfl (hb hby d6_24) rfl (fun h26 W27 A28 => ?_)
      refine go_aload_n (pc' := 26) (hb hby d6_25) rfl rfl rfl ?_
      refine go_iconst (pc' := 27) (v := 1) (hb hby d6_26) rfl rfl ?_
      refine go_iload_n (pc' := 28) (hb hby d6_27) rfl rfl ?_
      refine go_stC (pc' := 29) (i := 1) (x' := d) (vs' := [(.int c), (.int d)]) A28 (Nat.le_trans O0.2.1 (Nat.le_of_eq g22)) (by decide) (by decide) rfl (Nat.le_of_ble_eq_true rfl) (i2c_c8 p2) rfl (hb hby d6_28) rfl (fun h29 W30 A31 => ?_)
      refine go_newO (pc' := 32) (cells' := 2) (slots' := 6) (wk G 38 rfl) (wk G 9 rfl) (wk G 8 rfl) (hb hby d6_29) rfl rfl rfl (by decide) (by decide) (fun h32 a33 g34 X35 E36 D37 U38 => ?_)
      refine go_dup (pc' := 33) (hb hby d6_32) rfl rfl ?_
      refine go_aload_n (pc' := 34) (hb hby d6_33) rfl rfl rfl ?_
      have F39 := D37 (Or.inr (wk G 11 rfl)) (ty := (.array .byte)) (by decide)
      have F40 := D37 (Or.inr (wk G 12 rfl)) (ty := .byte) (by decide)
      have K41 : Keep h29 h32 [] := ((Keep.refl h29 []).ext X35)
      have A42 := (A31.keep K41 nin0)
      refine go_old (fun O43 => ?_)
      have K44 : Keep h0 h20 [] := ((Keep.refl h0 []).ext X23)
      have K45 : Keep h0 h26 [] := (K44.wr W27 (Or.inr (Nat.le_of_eq g22)))
      have K46 : Keep h0 h29 [] := (K45.wr W30 (Or.inr (Nat.le_of_eq g22)))
      refine callI0 (cells' := 3) (slots' := 8) (Wd := 1) (argsL := [(.ref a21)]) (rest := [(.ref a33)]) (pay_new G O43 (cs := [c, d]) (n := 2) (Nat.le_trans O0.2.1 (Nat.le_trans K46.1 (Nat.le_of_eq g34))) E36 F39 F40 A42 rfl rfl (by decide) (by decide) (c8c p1 (c8c p2 c8n)) (by decide) (by decide)) rfl (wk G 39 rfl) (wk G 40 rfl) (wk G 41 rfl) (by decide) pd5 rfl rfl (by rw [hml]; rfl) (Nat.le_of_ble_eq_true rfl) rfl rfl (by decide) (by decide) (allS (Nat.le_trans O0.2.1 (Nat.le_trans K46.1 (Nat.le_of_eq g34))) all0) (fun _ hal => (sfS (safe_null hal E36 F39) sf0)) (hb hby d6_34) (k_n (pc' := 37) rfl ?_)
      rintro h47 S49 K48
      have K50 : Keep h0 h32 [] := (K46.ext X35)
      have K51 : Keep h0 h47 [] := (K50.trans K48 (allS (Or.inr (Nat.le_trans K46.1 (Nat.le_of_eq g34))) all0))
      refine go_areturn hret hlk rfl rfl (hb hby d6_37) (by decide) (by decide) ⟨_, rfl, ⟨a33, rfl, ((tx2 c1 c13) ▸ S49)⟩⟩ K51
theorem ef_hpinit (m : MethodId) (a : Addr) (s : Addr) (q : Int32)  : entryFrame m #[(.ref a), (.ref s), (.int q)] 3 = mkF m 0 #[.val (.ref a), .val (.ref s), .val (.int q)] [] := by first | (simp [entryFrame, mkF, argsToLocals, Value.category]; done) | rfl
def Q_hpinit (Z : State) (a : Addr) (s : Addr) (q : Int32)  (h0 : Heap) (h : Heap) : Prop := Fld Z h a "com/example/onceward/onceward/HostPort" "host" "Ljava/lang/String;" (.ref s) ∧ Fld Z h a "com/example/onceward/onceward/HostPort" "port" "I" (.int q)
set_option maxRecDepth 65536 in
set_option maxHeartbeats 40000000 in
theorem c_hpinit (l : Launch) {Z : State} {a0 : Array Value} (G : GH Z a0) (a : Addr) (s : Addr) (q : Int32)  (h0 : Heap) (O0 : Old Z Z.heap.size h0) (p1 : Exa Z h0 a "com/example/onceward/onceward/HostPort") (p2 : Z.heap.size ≤ a) (p3 : Fld Z h0 a "com/example/onceward/onceward/HostPort" "host" "Ljava/lang/String;" .null) (p4 : Fld Z h0 a "com/example/onceward/onceward/HostPort" "port" "I" (.int (0 : Int32))) : Con false [] l Z (⟨"com/example/onceward/onceward/HostPort", "<init>", "(Ljava/lang/String;I)V"⟩ : MethodName) prog_9_method_1_code 3 none [] ({ frames := 1, cells := 0, slots := 0, locals := 12 } : Room) #[(.ref a), (.ref s), (.int q)] h0 [a] (rno (Q_hpinit Z a s q h0)) := by
  refine con_of (a0 := a0) (plainFor_of_name pn4) (fun q => rfl) EW.nil O0 (fun m => ef_hpinit m a s q) ?_
  intro p_ e_ s_ m_ below_ meth_ c_ hby hml hret hlk hnm
  refine go_aload_n (pc' := 1) (hb hby d7_0) rfl rfl rfl ?_
  refine go_initO (pc' := 4) (Wd := 0) (wk G 18 rfl) (wk G 19 rfl) (wk G 20 rfl) (by rw [hml]; rfl) (by decide) (by decide) (by decide) (hb hby d7_1) rfl ?_
  refine go_aload_n (pc' := 5) (hb hby d7_4) rfl rfl rfl ?_
  refine go_aload_n (pc' := 6) (hb hby d7_5) rfl rfl rfl ?_
  refine go_putF (pc' := 9) (wk G 21 rfl) Via.refl p3 p1 (Or.inr ⟨(wk G 22 rfl), rfl, hnm⟩) (wk G 1 rfl) (ty := (.object "java/lang/String")) (v' := (.ref s)) (by decide) rfl rfl p2 (Or.inr rfl) (hb hby d7_6) rfl (fun h1 W2 => ?_)
  have F3 := Fld.same W2 p3
  refine go_aload_n (pc' := 10) (hb hby d7_9) rfl rfl rfl ?_
  refine go_iload_n (pc' := 11) (hb hby d7_10) rfl rfl ?_
  have F4 := (p4.other W2 (Or.inr (slot_ne (t := .int) (t' := (.object "java/lang/String")) (Or.inr (wk G 24 rfl)) (Or.inr (wk G 22 rfl)) (by decide) (by decide) (by decide))))
  have E5 := (p1.wr W2)
  refine go_putF (pc' := 14) (wk G 23 rfl) Via.refl F4 E5 (Or.inr ⟨(wk G 24 rfl), rfl, hnm⟩) (wk G 1 rfl) (ty := .int) (v' := (.int q)) (by decide) rfl rfl p2 (Or.inr rfl) (hb hby d7_11) rfl (fun h6 W7 => ?_)
  have F8 := Fld.same W7 F4
  have K9 : Keep h0 h1 [a] := ((Keep.refl h0 [a]).wr W2 (Or.inl (by simp)))
  have K10 : Keep h0 h6 [a] := (K9.wr W7 (Or.inl (by simp)))
  have F11 := (F3.other W7 (Or.inr (slot_ne (t := (.object "java/lang/String")) (t' := .int) (Or.inr (wk G 22 rfl)) (Or.inr (wk G 24 rfl)) (by decide) (by decide) (by decide))))
  refine go_return hret hlk (hb hby d7_14) (by decide) (by decide) ⟨rfl, ⟨F11, F8⟩⟩ K10
theorem ef_number (m : MethodId) (a : Addr)  : entryFrame m #[(.ref a)] 1 = mkF m 0 #[.val (.ref a)] [] := by first | (simp [entryFrame, mkF, argsToLocals, Value.category]; done) | rfl
def Q_number (Z : State) (a : Addr)  (h0 : Heap) (h : Heap) : Prop := h0 = h
set_option maxRecDepth 65536 in
set_option maxHeartbeats 40000000 in
theorem c_number (l : Launch) {Z : State} {a0 : Array Value} (G : GH Z a0) (a : Addr)  (h0 : Heap) (O0 : Old Z Z.heap.size h0)  : Con false [] l Z (⟨"java/lang/Number", "<init>", "()V"⟩ : MethodName) jdk_18_method_1_code 1 none [] ({ frames := 1, cells := 0, slots := 0, locals := 12 } : Room) #[(.ref a)] h0 [] (rno (Q_number Z a h0)) := by
  refine con_of (a0 := a0) (plainFor_of_name pn5) (fun q => rfl) EW.nil O0 (fun m => ef_number m a) ?_
  intro p_ e_ s_ m_ below_ meth_ c_ hby hml hret hlk hnm
  refine go_aload_n (pc' := 1) (hb hby d8_0) rfl rfl rfl ?_
  refine go_initO (pc' := 4) (Wd := 0) (wk G 95 rfl) (wk G 19 rfl) (wk G 20 rfl) (by rw [hml]; rfl) (by decide) (by decide) (by decide) (hb hby d8_1) rfl ?_
  refine go_return hret hlk (hb hby d8_4) (by decide) (by decide) ⟨rfl, rfl⟩ (Keep.refl h0 [])
theorem ef_intinit (m : MethodId) (a : Addr) (v : Int32)  : entryFrame m #[(.ref a), (.int v)] 2 = mkF m 0 #[.val (.ref a), .val (.int v)] [] := by first | (simp [entryFrame, mkF, argsToLocals, Value.category]; done) | rfl
def Q_intinit (Z : State) (a : Addr) (v : Int32)  (h0 : Heap) (h : Heap) : Prop := Fld Z h a "java/lang/Integer" "value" "I" (.int v)
set_option maxRecDepth 65536 in
set_option maxHeartbeats 40000000 in
theorem c_intinit (l : Launch) {Z : State} {a0 : Array Value} (G : GH Z a0) (a : Addr) (v : Int32)  (h0 : Heap) (O0 : Old Z Z.heap.size h0) (p1 : Exa Z h0 a "java/lang/Integer") (p2 : Z.heap.size ≤ a) (p3 : Fld Z h0 a "java/lang/Integer" "value" "I" (.int (0 : Int32))) : Con false [] l Z (⟨"java/lang/Integer", "<init>", "(I)V"⟩ : MethodName) jdk_33_method_23_code 2 none [] ({ frames := 2, cells := 0, slots := 0, locals := 24 } : Room) #[(.ref a), (.int v)] h0 [a] (rno (Q_intinit Z a v h0)) := by
  refine con_of (a0 := a0) (plainFor_of_name pn6) (fun q => rfl) EW.nil O0 (fun m => ef_intinit m a v) ?_
  intro p_ e_ s_ m_ below_ meth_ c_ hby hml hret hlk hnm
  refine go_aload_n (pc' := 1) (hb hby d9_0) rfl rfl rfl ?_
  refine callI0 (cells' := 0) (slots' := 0) (Wd := 0) (argsL := []) (rest := []) (pay_of (a0 := a0) (c_number l G a h0 O0 ) (wk G 94 rfl) (wk G 93 rfl) (by decide) (by decide)) rfl (wk G 89 rfl) (wk G 90 rfl) (wk G 94 rfl) (by decide) pd6 rfl rfl (by rw [hml]; rfl) (Nat.le_of_ble_eq_true rfl) rfl rfl (by decide) (by decide) all0 (fun _ _ => sf0) (hb hby d9_1) (k_n (pc' := 4) rfl ?_)
  rintro  h1 rfl K2
  refine go_aload_n (pc' := 5) (hb hby d9_4) rfl rfl rfl ?_
  refine go_iload_n (pc' := 6) (hb hby d9_5) rfl rfl ?_
  refine go_putF (pc' := 9) (wk G 96 rfl) Via.refl p3 p1 (Or.inr ⟨(wk G 97 rfl), rfl, hnm⟩) (wk G 84 rfl) (ty := .int) (v' := (.int v)) (by decide) rfl rfl p2 (Or.inr rfl) (hb hby d9_6) rfl (fun h3 W4 => ?_)
  have F5 := Fld.same W4 p3
  have K6 : Keep h0 h3 [a] := ((Keep.refl h0 [a]).wr W4 (Or.inl (by simp)))
  refine go_return hret hlk (hb hby d9_9) (by decide) (by decide) ⟨rfl, F5⟩ K6
theorem ef_ivalueof (m : MethodId) (v : Int32)  : entryFrame m #[(.int v)] 1 = mkF m 0 #[.val (.int v)] [] := by first | (simp [entryFrame, mkF, argsToLocals, Value.category]; done) | rfl
def Q_ivalueof (Z : State) (v : Int32)  (h0 : Heap) (xv : Value) (h : Heap) : Prop := ∃ (r : Addr), (.ref r) = xv ∧ Exa Z h r "java/lang/Integer"
set_option maxRecDepth 65536 in
set_option maxHeartbeats 40000000 in
theorem c_ivalueof (l : Launch) {Z : State} {a0 : Array Value} (G : GH Z a0) (v : Int32)  (h0 : Heap) (O0 : Old Z Z.heap.size h0)  : Con false [] l Z (⟨"java/lang/Integer", "valueOf", "(I)Ljava/lang/Integer;"⟩ : MethodName) jdk_33_method_22_code 1 (some (.object "java/lang/Integer")) [] ({ frames := 3, cells := 1, slots := 1, locals := 38 } : Room) #[(.int v)] h0 [] (rvl (Q_ivalueof Z v h0)) := by
  refine con_of (a0 := a0) (plainFor_of_name pn6) (fun q => rfl) EW.nil O0 (fun m => ef_ivalueof m v) ?_
  intro p_ e_ s_ m_ below_ meth_ c_ hby hml hret hlk hnm
  refine go_iload_n (pc' := 1) (hb hby d10_0) rfl rfl ?_
  refine go_bipush (pc' := 3) (v := (-128)) (hb hby d10_1) rfl rfl ?_
  by_cases c1 : v < (-128 : Int32)
  · refine go_icT (pc' := 23) (hb hby d10_3) (by decide) rfl (XT.ii_lt_t c1) ?_
    refine go_newO (pc' := 26) (cells' := 1) (slots' := 1) (wk G 83 rfl) (wk G 84 rfl) (wk G 79 rfl) (hb hby d10_23) rfl rfl rfl (by decide) (by decide) (fun h2 a3 g4 X5 E6 D7 U8 => ?_)
    refine go_dup (pc' := 27) (hb hby d10_26) rfl rfl ?_
    refine go_iload_n (pc' := 28) (hb hby d10_27) rfl rfl ?_
    have F9 := D7 (Or.inr (wk G 97 rfl)) (ty := .int) (by decide)
    refine go_old (fun O10 => ?_)
    refine callI0 (cells' := 1) (slots' := 1) (Wd := 1) (argsL := [(.int v)]) (rest := [(.ref a3)]) (pay_of (a0 := a0) (c_intinit l G a3 v h2 O10 E6 (Nat.le_trans O0.2.1 (Nat.le_of_eq g4)) F9) (wk G 88 rfl) (wk G 79 rfl) (by decide) (by decide)) rfl (wk G 85 rfl) (wk G 86 rfl) (wk G 88 rfl) (by decide) pd7 rfl rfl (by rw [hml]; rfl) (Nat.le_of_ble_eq_true rfl) rfl rfl (by decide) (by decide) (allS (Nat.le_trans O0.2.1 (Nat.le_of_eq g4)) all0) (fun _ hal => (sfS safe_nil sf0)) (hb hby d10_28) (k_n (pc' := 31) rfl ?_)
    rintro  h11 f13 K12
    have K14 : Keep h0 h2 [] := ((Keep.refl h0 []).ext X5)
    have K15 : Keep h0 h11 [] := (K14.trans K12 (allS (Or.inr (Nat.le_of_eq g4)) all0))
    have E16 := (E6.keep K12)
    refine go_areturn hret hlk rfl rfl (hb hby d10_31) (by decide) (by decide) ⟨_, rfl, ⟨a3, rfl, E16⟩⟩ K15
  · refine go_icF (pc' := 6) (hb hby d10_3) rfl (XT.ii_lt_f c1) ?_
    refine go_iload_n (pc' := 7) (hb hby d10_6) rfl rfl ?_
    refine go_getS (pc' := 10) (wk G 81 rfl) ((ic_high G).ext O0.2) (hb hby d10_7) rfl ?_
    by_cases c17 : (127 : Int32) < v
    · refine go_icT (pc' := 23) (hb hby d10_10) (by decide) rfl (XT.ii_gt_t c17) ?_
      refine go_newO (pc' := 26) (cells' := 1) (slots' := 1) (wk G 83 rfl) (wk G 84 rfl) (wk G 79 rfl) (hb hby d10_23) rfl rfl rfl (by decide) (by decide) (fun h18 a19 g20 X21 E22 D23 U24 => ?_)
      refine go_dup (pc' := 27) (hb hby d10_26) rfl rfl ?_
      refine go_iload_n (pc' := 28) (hb hby d10_27) rfl rfl ?_
      have F25 := D23 (Or.inr (wk G 97 rfl)) (ty := .int) (by decide)
      refine go_old (fun O26 => ?_)
      refine callI0 (cells' := 1) (slots' := 1) (Wd := 1) (argsL := [(.int v)]) (rest := [(.ref a19)]) (pay_of (a0 := a0) (c_intinit l G a19 v h18 O26 E22 (Nat.le_trans O0.2.1 (Nat.le_of_eq g20)) F25) (wk G 88 rfl) (wk G 79 rfl) (by decide) (by decide)) rfl (wk G 85 rfl) (wk G 86 rfl) (wk G 88 rfl) (by decide) pd7 rfl rfl (by rw [hml]; rfl) (Nat.le_of_ble_eq_true rfl) rfl rfl (by decide) (by decide) (allS (Nat.le_trans O0.2.1 (Nat.le_of_eq g20)) all0) (fun _ hal => (sfS safe_nil sf0)) (hb hby d10_28) (k_n (pc' := 31) rfl ?_)
      rintro  h27 f29 K28
      have K30 : Keep h0 h18 [] := ((Keep.refl h0 []).ext X21)
      have K31 : Keep h0 h27 [] := (K30.trans K28 (allS (Or.inr (Nat.le_of_eq g20)) all0))
      have E32 := (E22.keep K28)
      refine go_areturn hret hlk rfl rfl (hb hby d10_31) (by decide) (by decide) ⟨_, rfl, ⟨a19, rfl, E32⟩⟩ K31
    · refine go_icF (pc' := 13) (hb hby d10_10) rfl (XT.ii_gt_f c17) ?_
      refine go_getS (pc' := 16) (wk G 102 rfl) ((ic_sta G).ext O0.2) (hb hby d10_13) rfl ?_
      refine go_iload_n (pc' := 17) (hb hby d10_16) rfl rfl ?_
      refine go_sipush (pc' := 20) (v := 128) (hb hby d10_17) rfl rfl ?_
      refine go_iadd (pc' := 21) (z := (v + (128 : Int32))) (hb hby d10_20) rfl rfl ?_
      obtain ⟨n33, n34⟩ := ic_rng c1 c17
      obtain ⟨k35, v36, r37, A38, e39, E40⟩ := ic_at G O0 n33 n34
      refine go_aaload (pc' := 22) (i := (v + (128 : Int32)).toNatClampNeg) (v := (.ref r37)) A38 rfl n33 n34 rfl e39 (hb hby d10_21) rfl ?_
      refine go_areturn hret hlk rfl rfl (hb hby d10_22) (by decide) (by decide) ⟨_, rfl, ⟨r37, rfl, E40⟩⟩ (Keep.refl h0 [])
theorem ef_eqhp (m : MethodId) (a : Addr) (b : Addr)  : entryFrame m #[(.ref a), (.ref b)] 2 = mkF m 0 #[.val (.ref a), .val (.ref b)] [] := by first | (simp [entryFrame, mkF, argsToLocals, Value.category]; done) | rfl
def Q_eqhp (Z : State) (a : Addr) (b : Addr) (s : Addr) (s' : Addr) (q : Int32) (q' : Int32) (cs : List Int32) (ds : List Int32) (h0 : Heap) (xv : Value) (h : Heap) : Prop := ((.int (1 : Int32)) = xv ∧ h0 = h ∧ cs = ds ∧ q = q') ∨ ((.int (0 : Int32)) = xv ∧ h0 = h ∧ ¬ (cs = ds ∧ q = q'))
set_option maxRecDepth 65536 in
set_option maxHeartbeats 40000000 in
theorem c_eqhp (l : Launch) {Z : State} {a0 : Array Value} (G : GH Z a0) (a : Addr) (b : Addr) (s : Addr) (s' : Addr) (q : Int32) (q' : Int32) (cs : List Int32) (ds : List Int32) (h0 : Heap) (O0 : Old Z Z.heap.size h0) (p1 : Exa Z h0 b "com/example/onceward/onceward/HostPort") (p2 : Fld Z h0 a "com/example/onceward/onceward/HostPort" "host" "Ljava/lang/String;" (.ref s)) (p3 : Fld Z h0 a "com/example/onceward/onceward/HostPort" "port" "I" (.int q)) (p4 : Fld Z h0 b "com/example/onceward/onceward/HostPort" "host" "Ljava/lang/String;" (.ref s')) (p5 : Fld Z h0 b "com/example/onceward/onceward/HostPort" "port" "I" (.int q')) (p6 : Str Z h0 s cs) (p7 : Str Z h0 s' ds) : Con false [] l Z (⟨"com/example/onceward/onceward/HostPort", "equals", "(Ljava/lang/Object;)Z"⟩ : MethodName) prog_9_method_5_code 2 (some .boolean) [] ({ frames := 2, cells := 0, slots := 0, locals := 28 } : Room) #[(.ref a), (.ref b)] h0 [] (rvl (Q_eqhp Z a b s s' q q' cs ds h0)) := by
  refine con_of (a0 := a0) (plainFor_of_name pn4) (fun q => rfl) EW.nil O0 (fun m => ef_eqhp m a b) ?_
  intro p_ e_ s_ m_ below_ meth_ c_ hby hml hret hlk hnm
  refine go_aload_n (pc' := 1) (hb hby d11_0) rfl rfl rfl ?_
  refine go_instY (pc' := 4) (wk G 30 rfl) (Ins.self p1) (hb hby d11_1) rfl ?_
  refine go_ifF (pc' := 7) (hb hby d11_4) rfl (by decide) ?_
  refine go_aload_n (pc' := 8) (hb hby d11_7) rfl rfl rfl ?_
  refine go_getF (pc' := 11) (wk G 21 rfl) Via.refl p2 (hb hby d11_8) rfl ?_
  refine go_aload_n (pc' := 12) (hb hby d11_11) rfl rfl rfl ?_
  refine go_cast (pc' := 15) (wk G 30 rfl) (Ins.self p1) (hb hby d11_12) rfl ?_
  refine go_getF (pc' := 18) (wk G 21 rfl) Via.refl p4 (hb hby d11_15) rfl ?_
  refine callV0 (cells' := 0) (slots' := 0) (Wd := 0) (argsL := [(.ref s')]) (rest := []) (pay_eq G O0 p6 p7 (by decide) (by decide)) p6.exa (wk G 32 rfl) (wk G 33 rfl) (wk G 35 rfl) (wk G 35 rfl) (wk G 34 rfl) (by decide) pd8 rfl rfl (by rw [hml]; rfl) (Nat.le_of_ble_eq_true rfl) rfl rfl (by decide) (by decide) all0 (fun _ _ => sf0) (hb hby d11_18) (k_v (pc' := 21) rfl ?_)
  rintro _ _ (⟨rfl, q1, rfl⟩ | ⟨rfl, q1, rfl⟩) -
  · refine go_ifF (pc' := 24) (hb hby d11_21) rfl (by decide) ?_
    refine go_aload_n (pc' := 25) (hb hby d11_24) rfl rfl rfl ?_
    refine go_getF (pc' := 28) (wk G 23 rfl) Via.refl p3 (hb hby d11_25) rfl ?_
    refine go_aload_n (pc' := 29) (hb hby d11_28) rfl rfl rfl ?_
    refine go_cast (pc' := 32) (wk G 30 rfl) (Ins.self p1) (hb hby d11_29) rfl ?_
    refine go_getF (pc' := 35) (wk G 23 rfl) Via.refl p5 (hb hby d11_32) rfl ?_
    by_cases c2 : q = q'
    · refine go_icF (pc' := 38) (hb hby d11_35) rfl (XT.ii_ne_f c2) ?_
      refine go_iconst (pc' := 39) (v := 1) (hb hby d11_38) rfl rfl ?_
      refine go_goto (pc' := 43) (hb hby d11_39) (by decide) rfl ?_
      refine go_ireturn hret hlk rfl (by simp) (hb hby d11_43) (by decide) (by decide) ⟨_, rfl, (Or.inl ⟨rfl, rfl, q1, c2⟩)⟩ (Keep.refl h0 [])
    · refine go_icT (pc' := 42) (hb hby d11_35) (by decide) rfl (XT.ii_ne_t c2) ?_
      refine go_iconst (pc' := 43) (v := 0) (hb hby d11_42) rfl rfl ?_
      refine go_ireturn hret hlk rfl (by simp) (hb hby d11_43) (by decide) (by decide) ⟨_, rfl, (Or.inr (⟨rfl, rfl, (fun z => c2 z.2)⟩))⟩ (Keep.refl h0 [])
  · refine go_ifT (pc' := 42) (hb hby d11_21) (by decide) rfl (by decide) ?_
    refine go_iconst (pc' := 43) (v := 0) (hb hby d11_42) rfl rfl ?_
    refine go_ireturn hret hlk rfl (by simp) (hb hby d11_43) (by decide) (by decide) ⟨_, rfl, (Or.inr (⟨rfl, rfl, (fun z => q1 z.1)⟩))⟩ (Keep.refl h0 [])
theorem ef_eqself (m : MethodId) (a : Addr)  : entryFrame m #[(.ref a), (.ref a)] 2 = mkF m 0 #[.val (.ref a), .val (.ref a)] [] := by first | (simp [entryFrame, mkF, argsToLocals, Value.category]; done) | rfl
def Q_eqself (Z : State) (a : Addr) (s : Addr) (q : Int32) (h0 : Heap) (xv : Value) (h : Heap) : Prop := (.int (1 : Int32)) = xv ∧ h0 = h
set_option maxRecDepth 65536 in
set_option maxHeartbeats 40000000 in
theorem c_eqself (l : Launch) {Z : State} {a0 : Array Value} (G : GH Z a0) (a : Addr) (s : Addr) (q : Int32) (h0 : Heap) (O0 : Old Z Z.heap.size h0) (p1 : Exa Z h0 a "com/example/onceward/onceward/HostPort") (p2 : Exa Z h0 s "java/lang/String") (p3 : Fld Z h0 a "com/example/onceward/onceward/HostPort" "host" "Ljava/lang/String;" (.ref s)) (p4 : Fld Z h0 a "com/example/onceward/onceward/HostPort" "port" "I" (.int q)) : Con false [] l Z (⟨"com/example/onceward/onceward/HostPort", "equals", "(Ljava/lang/Object;)Z"⟩ : MethodName) prog_9_method_5_code 2 (some .boolean) [] ({ frames := 1, cells := 0, slots := 0, locals := 14 } : Room) #[(.ref a), (.ref a)] h0 [] (rvl (Q_eqself Z a s q h0)) := by
  refine con_of (a0 := a0) (plainFor_of_name pn4) (fun q => rfl) EW.nil O0 (fun m => ef_eqself m a) ?_
  intro p_ e_ s_ m_ below_ meth_ c_ hby hml hret hlk hnm
  refine go_aload_n (pc' := 1) (hb hby d11_0) rfl rfl rfl ?_
  refine go_instY (pc' := 4) (wk G 30 rfl) (Ins.self p1) (hb hby d11_1) rfl ?_
  refine go_ifF (pc' := 7) (hb hby d11_4) rfl (by decide) ?_
  refine go_aload_n (pc' := 8) (hb hby d11_7) rfl rfl rfl ?_
  refine go_getF (pc' := 11) (wk G 21 rfl) Via.refl p3 (hb hby d11_8) rfl ?_
  refine go_aload_n (pc' := 12) (hb hby d11_11) rfl rfl rfl ?_
  refine go_cast (pc' := 15) (wk G 30 rfl) (Ins.self p1) (hb hby d11_12) rfl ?_
  refine go_getF (pc' := 18) (wk G 21 rfl) Via.refl p3 (hb hby d11_15) rfl ?_
  refine callV0 (cells' := 0) (slots' := 0) (Wd := 0) (argsL := [(.ref s)]) (rest := []) (pay_of (a0 := a0) (c_eqsame l G s h0 O0 ) (wk G 36 rfl) (wk G 8 rfl) (by decide) (by decide)) p2 (wk G 32 rfl) (wk G 33 rfl) (wk G 35 rfl) (wk G 35 rfl) (wk G 34 rfl) (by decide) pd8 rfl rfl (by rw [hml]; rfl) (Nat.le_of_ble_eq_true rfl) rfl rfl (by decide) (by decide) all0 (fun _ _ => sf0) (hb hby d11_18) (k_v (pc' := 21) rfl ?_)
  rintro _ h1 ⟨rfl, rfl⟩ K2
  refine go_ifF (pc' := 24) (hb hby d11_21) rfl (by decide) ?_
  refine go_aload_n (pc' := 25) (hb hby d11_24) rfl rfl rfl ?_
  refine go_getF (pc' := 28) (wk G 23 rfl) Via.refl p4 (hb hby d11_25) rfl ?_
  refine go_aload_n (pc' := 29) (hb hby d11_28) rfl rfl rfl ?_
  refine go_cast (pc' := 32) (wk G 30 rfl) (Ins.self p1) (hb hby d11_29) rfl ?_
  refine go_getF (pc' := 35) (wk G 23 rfl) Via.refl p4 (hb hby d11_32) rfl ?_
  refine go_icF (pc' := 38) (hb hby d11_35) rfl (XT.ii_ne_f rfl) ?_
  refine go_iconst (pc' := 39) (v := 1) (hb hby d11_38) rfl rfl ?_
  refine go_goto (pc' := 43) (hb hby d11_39) (by decide) rfl ?_
  refine go_ireturn hret hlk rfl (by simp) (hb hby d11_43) (by decide) (by decide) ⟨_, rfl, ⟨rfl, rfl⟩⟩ (Keep.refl h0 [])
theorem ef_eqnull (m : MethodId) (a : Addr)  : entryFrame m #[(.ref a), .null] 2 = mkF m 0 #[.val (.ref a), .val .null] [] := by first | (simp [entryFrame, mkF, argsToLocals, Value.category]; done) | rfl
def Q_eqnull (Z : State) (a : Addr)  (h0 : Heap) (xv : Value) (h : Heap) : Prop := (.int (0 : Int32)) = xv ∧ h0 = h
set_option maxRecDepth 65536 in
set_option maxHeartbeats 40000000 in
theorem c_eqnull (l : Launch) {Z : State} {a0 : Array Value} (G : GH Z a0) (a : Addr)  (h0 : Heap) (O0 : Old Z Z.heap.size h0)  : Con false [] l Z (⟨"com/example/onceward/onceward/HostPort", "equals", "(Ljava/lang/Object;)Z"⟩ : MethodName) prog_9_method_5_code 2 (some .boolean) [] ({ frames := 0, cells := 0, slots := 0, locals := 0 } : Room) #[(.ref a), .null] h0 [] (rvl (Q_eqnull Z a h0)) := by
  refine con_of (a0 := a0) (plainFor_of_name pn4) (fun q => rfl) EW.nil O0 (fun m => ef_eqnull m a) ?_
  intro p_ e_ s_ m_ below_ meth_ c_ hby hml hret hlk hnm
  refine go_aload_n (pc' := 1) (hb hby d11_0) rfl rfl rfl ?_
  refine go_instNull (pc' := 4) (hb hby d11_1) rfl ?_
  refine go_ifT (pc' := 42) (hb hby d11_4) (by decide) rfl (by decide) ?_
  refine go_iconst (pc' := 43) (v := 0) (hb hby d11_42) rfl rfl ?_
  refine go_ireturn hret hlk rfl (by simp) (hb hby d11_43) (by decide) (by decide) ⟨_, rfl, ⟨rfl, rfl⟩⟩ (Keep.refl h0 [])
theorem ef_eqothing (m : MethodId) (a : Addr) (b : Addr)  : entryFrame m #[(.ref a), (.ref b)] 2 = mkF m 0 #[.val (.ref a), .val (.ref b)] [] := by first | (simp [entryFrame, mkF, argsToLocals, Value.category]; done) | rfl
def Q_eqothing (Z : State) (a : Addr) (b : Addr)  (h0 : Heap) (xv : Value) (h : Heap) : Prop := (.int (0 : Int32)) = xv ∧ h0 = h
set_option maxRecDepth 65536 in
set_option maxHeartbeats 40000000 in
theorem c_eqothing (l : Launch) {Z : State} {a0 : Array Value} (G : GH Z a0) (a : Addr) (b : Addr)  (h0 : Heap) (O0 : Old Z Z.heap.size h0) (p1 : Exa Z h0 b "java/lang/String") : Con false [] l Z (⟨"com/example/onceward/onceward/HostPort", "equals", "(Ljava/lang/Object;)Z"⟩ : MethodName) prog_9_method_5_code 2 (some .boolean) [] ({ frames := 0, cells := 0, slots := 0, locals := 0 } : Room) #[(.ref a), (.ref b)] h0 [] (rvl (Q_eqothing Z a b h0)) := by
  refine con_of (a0 := a0) (plainFor_of_name pn4) (fun q => rfl) EW.nil O0 (fun m => ef_eqothing m a b) ?_
  intro p_ e_ s_ m_ below_ meth_ c_ hby hml hret hlk hnm
  refine go_aload_n (pc' := 1) (hb hby d11_0) rfl rfl rfl ?_
  refine go_instNo (pc' := 4) (wk G 30 rfl) p1 (no_inst (wk G 101 rfl) (wk G 1 rfl) (NS.step (wk G 101 rfl) (ns_root (wk G 100 rfl) (wk G 1 rfl) (by decide)) (by decide)) (by decide)) (hb hby d11_1) rfl ?_
  refine go_ifT (pc' := 42) (hb hby d11_4) (by decide) rfl (by decide) ?_
  refine go_iconst (pc' := 43) (v := 0) (hb hby d11_42) rfl rfl ?_
  refine go_ireturn hret hlk rfl (by simp) (hb hby d11_43) (by decide) (by decide) ⟨_, rfl, ⟨rfl, rfl⟩⟩ (Keep.refl h0 [])
theorem ef_eqothger (m : MethodId) (a : Addr) (b : Addr)  : entryFrame m #[(.ref a), (.ref b)] 2 = mkF m 0 #[.val (.ref a), .val (.ref b)] [] := by first | (simp [entryFrame, mkF, argsToLocals, Value.category]; done) | rfl
def Q_eqothger (Z : State) (a : Addr) (b : Addr)  (h0 : Heap) (xv : Value) (h : Heap) : Prop := (.int (0 : Int32)) = xv ∧ h0 = h
set_option maxRecDepth 65536 in
set_option maxHeartbeats 40000000 in
theorem c_eqothger (l : Launch) {Z : State} {a0 : Array Value} (G : GH Z a0) (a : Addr) (b : Addr)  (h0 : Heap) (O0 : Old Z Z.heap.size h0) (p1 : Exa Z h0 b "java/lang/Integer") : Con false [] l Z (⟨"com/example/onceward/onceward/HostPort", "equals", "(Ljava/lang/Object;)Z"⟩ : MethodName) prog_9_method_5_code 2 (some .boolean) [] ({ frames := 0, cells := 0, slots := 0, locals := 0 } : Room) #[(.ref a), (.ref b)] h0 [] (rvl (Q_eqothger Z a b h0)) := by
  refine con_of (a0 := a0) (plainFor_of_name pn4) (fun q => rfl) EW.nil O0 (fun m => ef_eqothger m a b) ?_
  intro p_ e_ s_ m_ below_ meth_ c_ hby hml hret hlk hnm
  refine go_aload_n (pc' := 1) (hb hby d11_0) rfl rfl rfl ?_
  refine go_instNo (pc' := 4) (wk G 30 rfl) p1 (no_inst (wk G 98 rfl) (wk G 1 rfl) (NS.step (wk G 98 rfl) (NS.step (wk G 99 rfl) (ns_root (wk G 100 rfl) (wk G 1 rfl) (by decide)) (by decide)) (by decide)) (by decide)) (hb hby d11_1) rfl ?_
  refine go_ifT (pc' := 42) (hb hby d11_4) (by decide) rfl (by decide) ?_
  refine go_iconst (pc' := 43) (v := 0) (hb hby d11_42) rfl rfl ?_
  refine go_ireturn hret hlk rfl (by simp) (hb hby d11_43) (by decide) (by decide) ⟨_, rfl, ⟨rfl, rfl⟩⟩ (Keep.refl h0 [])
theorem ef_law (m : MethodId) (x0 : Int32) (x1 : Int32) (x2 : Int32) (x3 : Int32) (x4 : Int32) (x5 : Int32)  : entryFrame m #[(.int x0), (.int x1), (.int x2), (.int x3), (.int x4), (.int x5)] maxLocals = mkF m 0 #[.val (.int x0), .val (.int x1), .val (.int x2), .val (.int x3), .val (.int x4), .val (.int x5), .unset, .unset, .unset, .unset, .unset, .unset, .unset, .unset, .unset, .unset, .unset, .unset, .unset] [] := by first | (simp [entryFrame, mkF, argsToLocals, Value.category, maxLocals]; done) | rfl
def Q_law (Z : State) (x0 : Int32) (x1 : Int32) (x2 : Int32) (x3 : Int32) (x4 : Int32) (x5 : Int32)  (h0 : Heap) (xv : Value) (h : Heap) : Prop := (.int (1 : Int32)) = xv
set_option maxRecDepth 65536 in
set_option maxHeartbeats 40000000 in
theorem c_law (l : Launch) {Z : State} {a0 : Array Value} (G : GH Z a0) (x0 : Int32) (x1 : Int32) (x2 : Int32) (x3 : Int32) (x4 : Int32) (x5 : Int32)  (h0 : Heap) (O0 : Old Z Z.heap.size h0)  : Con true EL1 l Z x code maxLocals ret tables_1 room_1 #[(.int x0), (.int x1), (.int x2), (.int x3), (.int x4), (.int x5)] h0 [] (rvl (Q_law Z x0 x1 x2 x3 x4 x5 h0)) := by
  refine con_of (a0 := a0) (plainFor_of_name pn3) (fun q => nomatch q) (ew1 G) O0 (fun m => ef_law m x0 x1 x2 x3 x4 x5) ?_
  intro p_ e_ s_ m_ below_ meth_ c_ hby hml hret hlk hnm
  refine go_iload_n (pc' := 1) (hb hby at_0) rfl rfl ?_
  refine go_sipush (pc' := 4) (v := 255) (hb hby at_1) rfl rfl ?_
  refine go_iand (pc' := 5) (z := (x0 &&& (255 : Int32))) (hb hby at_4) rfl rfl ?_
  refine go_i2c (pc' := 6) (z := (x0 &&& (255 : Int32))) (hb hby at_5) rfl (i2c_mask _) ?_
  refine go_istore (pc' := 8) (ls' := #[.val (.int x0), .val (.int x1), .val (.int x2), .val (.int x3), .val (.int x4), .val (.int x5), .val (.int (x0 &&& (255 : Int32))), .unset, .unset, .unset, .unset, .unset, .unset, .unset, .unset, .unset, .unset, .unset, .unset]) (hb hby at_6) rfl rfl ?_
  refine go_iload_n (pc' := 9) (hb hby at_8) rfl rfl ?_
  refine go_bipush (pc' := 11) (v := 8) (hb hby at_9) rfl rfl ?_
  refine go_iushr (pc' := 12) (z := (XT.ushr x0 (8 : Int32))) (hb hby at_11) rfl rfl ?_
  refine go_sipush (pc' := 15) (v := 255) (hb hby at_12) rfl rfl ?_
  refine go_iand (pc' := 16) (z := ((XT.ushr x0 (8 : Int32)) &&& (255 : Int32))) (hb hby at_15) rfl rfl ?_
  refine go_i2c (pc' := 17) (z := ((XT.ushr x0 (8 : Int32)) &&& (255 : Int32))) (hb hby at_16) rfl (i2c_mask _) ?_
  refine go_istore (pc' := 19) (ls' := #[.val (.int x0), .val (.int x1), .val (.int x2), .val (.int x3), .val (.int x4), .val (.int x5), .val (.int (x0 &&& (255 : Int32))), .val (.int ((XT.ushr x0 (8 : Int32)) &&& (255 : Int32))), .unset, .unset, .unset, .unset, .unset, .unset, .unset, .unset, .unset, .unset, .unset]) (hb hby at_17) rfl rfl ?_
  refine go_cut (α := Int32 × Int32) (P := fun q => (C8 q.1) ∧ (C8 q.2)) (gf := fun q => mkF m_ 56 #[.val (.int x0), .val (.int x1), .val (.int x2), .val (.int x3), .val (.int x4), .val (.int x5), .val (.int (x0 &&& (255 : Int32))), .val (.int ((XT.ushr x0 (8 : Int32)) &&& (255 : Int32))), .val (.int q.1), .val (.int q.2), .unset, .unset, .unset, .unset, .unset, .unset, .unset, .unset, .unset] []) ?_ ?_
  · rintro ⟨b0, b1⟩ ⟨q2, q3⟩
    try dsimp only
    refine go_iload (pc' := 58) (hb hby at_56) rfl rfl ?_
    refine go_iconst (pc' := 59) (v := 3) (hb hby at_58) rfl rfl ?_
    refine go_iand (pc' := 60) (z := (x4 &&& (3 : Int32))) (hb hby at_59) rfl rfl ?_
    refine go_iconst (pc' := 61) (v := 3) (hb hby at_60) rfl rfl ?_
    refine go_irem (pc' := 62) (z := ((x4 &&& (3 : Int32)) % (3 : Int32))) (hb hby at_61) rfl (by decide) rfl ?_
    refine go_istore (pc' := 64) (ls' := #[.val (.int x0), .val (.int x1), .val (.int x2), .val (.int x3), .val (.int x4), .val (.int x5), .val (.int (x0 &&& (255 : Int32))), .val (.int ((XT.ushr x0 (8 : Int32)) &&& (255 : Int32))), .val (.int b0), .val (.int b1), .val (.int ((x4 &&& (3 : Int32)) % (3 : Int32))), .unset, .unset, .unset, .unset, .unset, .unset, .unset, .unset]) (hb hby at_62) rfl rfl ?_
    refine go_iload (pc' := 66) (hb hby at_64) rfl rfl ?_
    refine go_iconst (pc' := 67) (v := 2) (hb hby at_66) rfl rfl ?_
    refine go_iushr (pc' := 68) (z := (XT.ushr x4 (2 : Int32))) (hb hby at_67) rfl rfl ?_
    refine go_iconst (pc' := 69) (v := 3) (hb hby at_68) rfl rfl ?_
    refine go_iand (pc' := 70) (z := ((XT.ushr x4 (2 : Int32)) &&& (3 : Int32))) (hb hby at_69) rfl rfl ?_
    refine go_iconst (pc' := 71) (v := 3) (hb hby at_70) rfl rfl ?_
    refine go_irem (pc' := 72) (z := (((XT.ushr x4 (2 : Int32)) &&& (3 : Int32)) % (3 : Int32))) (hb hby at_71) rfl (by decide) rfl ?_
    refine go_istore (pc' := 74) (ls' := #[.val (.int x0), .val (.int x1), .val (.int x2), .val (.int x3), .val (.int x4), .val (.int x5), .val (.int (x0 &&& (255 : Int32))), .val (.int ((XT.ushr x0 (8 : Int32)) &&& (255 : Int32))), .val (.int b0), .val (.int b1), .val (.int ((x4 &&& (3 : Int32)) % (3 : Int32))), .val (.int (((XT.ushr x4 (2 : Int32)) &&& (3 : Int32)) % (3 : Int32))), .unset, .unset, .unset, .unset, .unset, .unset, .unset]) (hb hby at_72) rfl rfl ?_
    refine go_cut (α := Int32 × Int32 × Int32) (P := fun q => (R3 q.1) ∧ (R3 q.2.1)) (gf := fun q => mkF m_ 88 #[.val (.int x0), .val (.int x1), .val (.int x2), .val (.int x3), .val (.int x4), .val (.int x5), .val (.int (x0 &&& (255 : Int32))), .val (.int ((XT.ushr x0 (8 : Int32)) &&& (255 : Int32))), .val (.int b0), .val (.int b1), .val (.int q.1), .val (.int q.2.1), .val (.int q.2.2), .unset, .unset, .unset, .unset, .unset, .unset] []) ?_ ?_
    · rintro ⟨n1, n2, p2⟩ ⟨q5, q6⟩
      try dsimp only
      refine go_iload (pc' := 90) (hb hby at_88) rfl rfl ?_
      refine go_iconst (pc' := 91) (v := 2) (hb hby at_90) rfl rfl ?_
      refine go_iushr (pc' := 92) (z := (XT.ushr x5 (2 : Int32))) (hb hby at_91) rfl rfl ?_
      refine go_iconst (pc' := 93) (v := 3) (hb hby at_92) rfl rfl ?_
      refine go_iand (pc' := 94) (z := ((XT.ushr x5 (2 : Int32)) &&& (3 : Int32))) (hb hby at_93) rfl rfl ?_
      refine go_istore (pc' := 96) (ls' := #[.val (.int x0), .val (.int x1), .val (.int x2), .val (.int x3), .val (.int x4), .val (.int x5), .val (.int (x0 &&& (255 : Int32))), .val (.int ((XT.ushr x0 (8 : Int32)) &&& (255 : Int32))), .val (.int b0), .val (.int b1), .val (.int n1), .val (.int n2), .val (.int p2), .val (.int ((XT.ushr x5 (2 : Int32)) &&& (3 : Int32))), .unset, .unset, .unset, .unset, .unset]) (hb hby at_94) rfl rfl ?_
      refine go_newO (pc' := 99) (cells' := 1) (slots' := 2) (wk G 0 rfl) (wk G 1 rfl) (wk G 2 rfl) (hb hby at_96) rfl rfl rfl (by decide) (by decide) (fun h7 a8 g9 X10 E11 D12 U13 => ?_)
      refine go_dup (pc' := 100) (hb hby at_99) rfl rfl ?_
      refine go_iload (pc' := 102) (hb hby at_100) rfl rfl ?_
      refine go_iload (pc' := 104) (hb hby at_102) rfl rfl ?_
      refine go_iload (pc' := 106) (hb hby at_104) rfl rfl ?_
      refine go_old (fun O14 => ?_)
      refine callSW0 rfl (cells' := 4) (slots' := 10) (Wd := 2) (argsL := [(.int n1), (.int (x0 &&& (255 : Int32))), (.int ((XT.ushr x0 (8 : Int32)) &&& (255 : Int32)))]) (rest := [(.ref a8), (.ref a8)]) (payW_of (a0 := a0) (c_text l G n1 (x0 &&& (255 : Int32)) ((XT.ushr x0 (8 : Int32)) &&& (255 : Int32)) h7 O14 (c8_m _) (c8_m _)) (wk G 6 rfl) (wk G 5 rfl) (by decide) (by decide) (ew1 G)) (wk G 3 rfl) (wk G 4 rfl) (wk G 5 rfl) (wk G 6 rfl) (by decide) pd9 rfl rfl (by rw [hml]; rfl) (Nat.le_of_ble_eq_true rfl) rfl rfl (by decide) (by decide) all0 (hb hby at_106) (k_v (pc' := 109) rfl ?_)
      rintro _ h15 ⟨r17, rfl, f18⟩ K16
      refine go_iload_n (pc' := 110) (hb hby at_109) rfl rfl ?_
      have K19 : Keep h7 h15 [] := ((Keep.refl h7 []).trans K16 all0)
      have E20 := (E11.keep K19)
      have F21 := D12 (Or.inr (wk G 22 rfl)) (ty := (.object "java/lang/String")) (by decide)
      have F22 := (F21.keep K19 nin0)
      have F23 := D12 (Or.inr (wk G 24 rfl)) (ty := .int) (by decide)
      have F24 := (F23.keep K19 nin0)
      refine go_old (fun O25 => ?_)
      refine callI0 (cells' := 4) (slots' := 10) (Wd := 1) (argsL := [(.ref r17), (.int x2)]) (rest := [(.ref a8)]) (pay_of (a0 := a0) (c_hpinit l G a8 r17 x2 h15 O25 E20 (Nat.le_trans O0.2.1 (Nat.le_of_eq g9)) F22 F24) (wk G 17 rfl) (wk G 2 rfl) (by decide) (by decide)) rfl (wk G 15 rfl) (wk G 16 rfl) (wk G 17 rfl) (by decide) pd10 rfl rfl (by rw [hml]; rfl) (Nat.le_of_ble_eq_true rfl) rfl rfl (by decide) (by decide) (allS (Nat.le_trans O0.2.1 (Nat.le_of_eq g9)) all0) (fun _ hal => (sfS (Safe.exa hal E20 (by decide) (by decide)) sf0)) (hb hby at_110) (k_n (pc' := 113) rfl ?_)
      rintro  h26 ⟨f28, f29⟩ K27
      refine go_astore (pc' := 115) (ls' := #[.val (.int x0), .val (.int x1), .val (.int x2), .val (.int x3), .val (.int x4), .val (.int x5), .val (.int (x0 &&& (255 : Int32))), .val (.int ((XT.ushr x0 (8 : Int32)) &&& (255 : Int32))), .val (.int b0), .val (.int b1), .val (.int n1), .val (.int n2), .val (.int p2), .val (.int ((XT.ushr x5 (2 : Int32)) &&& (3 : Int32))), .val (.ref a8), .unset, .unset, .unset, .unset]) (hb hby at_113) rfl rfl rfl ?_
      refine go_iload (pc' := 117) (hb hby at_115) rfl rfl ?_
      refine go_iload (pc' := 119) (hb hby at_117) rfl rfl ?_
      refine go_iload (pc' := 121) (hb hby at_119) rfl rfl ?_
      refine go_old (fun O30 => ?_)
      refine callSW0 rfl (cells' := 7) (slots' := 18) (Wd := 0) (argsL := [(.int n2), (.int b0), (.int b1)]) (rest := []) (payW_of (a0 := a0) (c_text l G n2 b0 b1 h26 O30 q2 q3) (wk G 6 rfl) (wk G 5 rfl) (by decide) (by decide) (ew1 G)) (wk G 3 rfl) (wk G 4 rfl) (wk G 5 rfl) (wk G 6 rfl) (by decide) pd9 rfl rfl (by rw [hml]; rfl) (Nat.le_of_ble_eq_true rfl) rfl rfl (by decide) (by decide) all0 (hb hby at_121) (k_v (pc' := 124) rfl ?_)
      rintro _ h31 ⟨r33, rfl, f34⟩ K32
      refine go_astore (pc' := 126) (ls' := #[.val (.int x0), .val (.int x1), .val (.int x2), .val (.int x3), .val (.int x4), .val (.int x5), .val (.int (x0 &&& (255 : Int32))), .val (.int ((XT.ushr x0 (8 : Int32)) &&& (255 : Int32))), .val (.int b0), .val (.int b1), .val (.int n1), .val (.int n2), .val (.int p2), .val (.int ((XT.ushr x5 (2 : Int32)) &&& (3 : Int32))), .val (.ref a8), .val (.ref r33), .unset, .unset, .unset]) (hb hby at_124) rfl rfl rfl ?_
      refine go_iload (pc' := 128) (hb hby at_126) rfl rfl ?_
      by_cases c35 : ((XT.ushr x5 (2 : Int32)) &&& (3 : Int32)) = (0 : Int32)
      · refine go_ifF (pc' := 131) (hb hby at_128) rfl (XT.i0_ne_f c35) ?_
        refine go_newO (pc' := 134) (cells' := 8) (slots' := 20) (wk G 0 rfl) (wk G 1 rfl) (wk G 2 rfl) (hb hby at_131) rfl rfl rfl (by decide) (by decide) (fun h36 a37 g38 X39 E40 D41 U42 => ?_)
        refine go_dup (pc' := 135) (hb hby at_134) rfl rfl ?_
        refine go_aload (pc' := 137) (hb hby at_135) rfl rfl rfl ?_
        refine go_iload (pc' := 139) (hb hby at_137) rfl rfl ?_
        have K43 : Keep h0 h7 [] := ((Keep.refl h0 []).ext X10)
        have K44 : Keep h0 h15 [] := (K43.trans K16 all0)
        have K45 : Keep h0 h26 [] := (K44.trans K27 (allS (Or.inr (Nat.le_of_eq g9)) all0))
        have K46 : Keep h0 h31 [] := (K45.trans K32 all0)
        have F47 := D41 (Or.inr (wk G 22 rfl)) (ty := (.object "java/lang/String")) (by decide)
        have F48 := D41 (Or.inr (wk G 24 rfl)) (ty := .int) (by decide)
        refine go_old (fun O49 => ?_)
        refine callI0 (cells' := 8) (slots' := 20) (Wd := 1) (argsL := [(.ref r33), (.int p2)]) (rest := [(.ref a37)]) (pay_of (a0 := a0) (c_hpinit l G a37 r33 p2 h36 O49 E40 (Nat.le_trans O0.2.1 (Nat.le_trans K46.1 (Nat.le_of_eq g38))) F47 F48) (wk G 17 rfl) (wk G 2 rfl) (by decide) (by decide)) rfl (wk G 15 rfl) (wk G 16 rfl) (wk G 17 rfl) (by decide) pd10 rfl rfl (by rw [hml]; rfl) (Nat.le_of_ble_eq_true rfl) rfl rfl (by decide) (by decide) (allS (Nat.le_trans O0.2.1 (Nat.le_trans K46.1 (Nat.le_of_eq g38))) all0) (fun _ hal => (sfS (Safe.exa hal E40 (by decide) (by decide)) sf0)) (hb hby at_139) (k_n (pc' := 142) rfl ?_)
        rintro  h50 ⟨f52, f53⟩ K51
        refine go_astore (pc' := 144) (ls' := #[.val (.int x0), .val (.int x1), .val (.int x2), .val (.int x3), .val (.int x4), .val (.int x5), .val (.int (x0 &&& (255 : Int32))), .val (.int ((XT.ushr x0 (8 : Int32)) &&& (255 : Int32))), .val (.int b0), .val (.int b1), .val (.int n1), .val (.int n2), .val (.int p2), .val (.int ((XT.ushr x5 (2 : Int32)) &&& (3 : Int32))), .val (.ref a8), .val (.ref r33), .val (.ref a37), .unset, .unset]) (hb hby at_142) rfl rfl rfl ?_
        refine go_goto (pc' := 179) (hb hby at_144) (by decide) rfl ?_
        refine go_cut (α := Int32) (P := fun q => ((q = 1 ∧ tx n1 (x0 &&& (255 : Int32)) ((XT.ushr x0 (8 : Int32)) &&& (255 : Int32)) = tx n2 b0 b1) ∨ (q = 0 ∧ ¬ tx n1 (x0 &&& (255 : Int32)) ((XT.ushr x0 (8 : Int32)) &&& (255 : Int32)) = tx n2 b0 b1))) (gf := fun q => mkF m_ 217 #[.val (.int x0), .val (.int x1), .val (.int x2), .val (.int x3), .val (.int x4), .val (.int x5), .val (.int (x0 &&& (255 : Int32))), .val (.int ((XT.ushr x0 (8 : Int32)) &&& (255 : Int32))), .val (.int b0), .val (.int b1), .val (.int n1), .val (.int n2), .val (.int p2), .val (.int ((XT.ushr x5 (2 : Int32)) &&& (3 : Int32))), .val (.ref a8), .val (.ref r33), .val (.ref a37), .unset, .unset] [(.int q)]) ?_ ?_
        · rintro sb q55
          try dsimp only
          rcases q55 with ⟨rfl, e56⟩ | ⟨rfl, e56⟩
          · refine go_istore (pc' := 219) (ls' := #[.val (.int x0), .val (.int x1), .val (.int x2), .val (.int x3), .val (.int x4), .val (.int x5), .val (.int (x0 &&& (255 : Int32))), .val (.int ((XT.ushr x0 (8 : Int32)) &&& (255 : Int32))), .val (.int b0), .val (.int b1), .val (.int n1), .val (.int n2), .val (.int p2), .val (.int ((XT.ushr x5 (2 : Int32)) &&& (3 : Int32))), .val (.ref a8), .val (.ref r33), .val (.ref a37), .val (.int (1 : Int32)), .unset]) (hb hby at_217) rfl rfl ?_
            refine go_iload (pc' := 221) (hb hby at_219) rfl rfl ?_
            refine go_ifF (pc' := 224) (hb hby at_221) rfl (XT.i0_ne_f c35) ?_
            refine go_iload (pc' := 226) (hb hby at_224) rfl rfl ?_
            refine go_ifF (pc' := 229) (hb hby at_226) rfl (by decide) ?_
            refine go_iload_n (pc' := 230) (hb hby at_229) rfl rfl ?_
            refine go_iload (pc' := 232) (hb hby at_230) rfl rfl ?_
            by_cases c57 : x2 = p2
            · refine go_icF (pc' := 235) (hb hby at_232) rfl (XT.ii_ne_f c57) ?_
              refine go_iconst (pc' := 236) (v := 1) (hb hby at_235) rfl rfl ?_
              refine go_goto (pc' := 240) (hb hby at_236) (by decide) rfl ?_
              refine go_istore (pc' := 242) (ls' := #[.val (.int x0), .val (.int x1), .val (.int x2), .val (.int x3), .val (.int x4), .val (.int x5), .val (.int (x0 &&& (255 : Int32))), .val (.int ((XT.ushr x0 (8 : Int32)) &&& (255 : Int32))), .val (.int b0), .val (.int b1), .val (.int n1), .val (.int n2), .val (.int p2), .val (.int ((XT.ushr x5 (2 : Int32)) &&& (3 : Int32))), .val (.ref a8), .val (.ref r33), .val (.ref a37), .val (.int (1 : Int32)), .val (.int (1 : Int32))]) (hb hby at_240) rfl rfl ?_
              refine go_aload (pc' := 244) (hb hby at_242) rfl rfl rfl ?_
              refine go_aload (pc' := 246) (hb hby at_244) rfl rfl rfl ?_
              have K58 : Keep h26 h31 [] := ((Keep.refl h26 []).trans K32 all0)
              have K59 : Keep h26 h36 [] := (K58.ext X39)
              have K60 : Keep h26 h50 [] := (K59.trans K51 (allS (Or.inr (Nat.le_trans K58.1 (Nat.le_of_eq g38))) all0))
              have F61 := (f28.keep K60 nin0)
              have F62 := (f29.keep K60 nin0)
              have E63 := (E40.keep K51)
              have S64 := ((((f18.keepX K27 (E11.keep K16) (by decide) (wk G 1 rfl)).keep K32).ext X39).keepX K51 E40 (by decide) (wk G 1 rfl))
              have K65 : Keep h31 h36 [] := ((Keep.refl h31 []).ext X39)
              have K66 : Keep h31 h50 [] := (K65.trans K51 (allS (Or.inr (Nat.le_of_eq g38)) all0))
              have S67 := (f34.keep K66)
              refine go_old (fun O68 => ?_)
              have E69 := ((((E20.keep K27).keep K32).ext X39).keep K51)
              refine callV0 (cells' := 8) (slots' := 20) (Wd := 0) (argsL := [(.ref a37)]) (rest := []) (pay_of (a0 := a0) (c_eqhp l G a8 a37 r17 r33 x2 p2 (tx n1 (x0 &&& (255 : Int32)) ((XT.ushr x0 (8 : Int32)) &&& (255 : Int32))) (tx n2 b0 b1) h50 O68 E63 F61 F62 f52 f53 S64 S67) (wk G 29 rfl) (wk G 2 rfl) (by decide) (by decide)) E69 (wk G 25 rfl) (wk G 26 rfl) (wk G 28 rfl) (wk G 28 rfl) (wk G 27 rfl) (by decide) pd8 rfl rfl (by rw [hml]; rfl) (Nat.le_of_ble_eq_true rfl) rfl rfl (by decide) (by decide) all0 (fun _ _ => sf0) (hb hby at_246) (k_v (pc' := 249) rfl ?_)
              rintro _ h70 (⟨rfl, rfl, f72, f73⟩ | ⟨rfl, rfl, f74⟩) K71
              · refine go_iload (pc' := 251) (hb hby at_249) rfl rfl ?_
                refine go_icF (pc' := 254) (hb hby at_251) rfl (by decide) ?_
                refine go_aload (pc' := 256) (hb hby at_254) rfl rfl rfl ?_
                refine go_aload (pc' := 258) (hb hby at_256) rfl rfl rfl ?_
                have E75 := ((((f18.exa.keep K27).keep K32).ext X39).keep K51)
                refine callV0 (cells' := 8) (slots' := 20) (Wd := 0) (argsL := [(.ref a8)]) (rest := []) (pay_of (a0 := a0) (c_eqself l G a8 r17 x2 h50 O68 E69 E75 F61 F62) (wk G 29 rfl) (wk G 2 rfl) (by decide) (by decide)) E69 (wk G 25 rfl) (wk G 26 rfl) (wk G 28 rfl) (wk G 28 rfl) (wk G 27 rfl) (by decide) pd8 rfl rfl (by rw [hml]; rfl) (Nat.le_of_ble_eq_true rfl) rfl rfl (by decide) (by decide) all0 (fun _ _ => sf0) (hb hby at_258) (k_v (pc' := 261) rfl ?_)
                rintro _ h76 ⟨rfl, rfl⟩ K77
                refine go_ifF (pc' := 264) (hb hby at_261) rfl (by decide) ?_
                refine go_iconst (pc' := 265) (v := 1) (hb hby at_264) rfl rfl ?_
                refine go_goto (pc' := 269) (hb hby at_265) (by decide) rfl ?_
                have K78 : Keep h0 h36 [] := (K46.ext X39)
                have K79 : Keep h0 h50 [] := (K78.trans K51 (allS (Or.inr (Nat.le_trans K46.1 (Nat.le_of_eq g38))) all0))
                refine go_ireturn hret hlk rfl (by simp) (hb hby at_269) (by decide) (by decide) ⟨_, rfl, rfl⟩ K79
              · exact absurd ⟨e56, c57⟩ f74
            · refine go_icT (pc' := 239) (hb hby at_232) (by decide) rfl (XT.ii_ne_t c57) ?_
              refine go_iconst (pc' := 240) (v := 0) (hb hby at_239) rfl rfl ?_
              refine go_istore (pc' := 242) (ls' := #[.val (.int x0), .val (.int x1), .val (.int x2), .val (.int x3), .val (.int x4), .val (.int x5), .val (.int (x0 &&& (255 : Int32))), .val (.int ((XT.ushr x0 (8 : Int32)) &&& (255 : Int32))), .val (.int b0), .val (.int b1), .val (.int n1), .val (.int n2), .val (.int p2), .val (.int ((XT.ushr x5 (2 : Int32)) &&& (3 : Int32))), .val (.ref a8), .val (.ref r33), .val (.ref a37), .val (.int (1 : Int32)), .val (.int (0 : Int32))]) (hb hby at_240) rfl rfl ?_
              refine go_aload (pc' := 244) (hb hby at_242) rfl rfl rfl ?_
              refine go_aload (pc' := 246) (hb hby at_244) rfl rfl rfl ?_
              have K80 : Keep h26 h31 [] := ((Keep.refl h26 []).trans K32 all0)
              have K81 : Keep h26 h36 [] := (K80.ext X39)
              have K82 : Keep h26 h50 [] := (K81.trans K51 (allS (Or.inr (Nat.le_trans K80.1 (Nat.le_of_eq g38))) all0))
              have F83 := (f28.keep K82 nin0)
              have F84 := (f29.keep K82 nin0)
              have E85 := (E40.keep K51)
              have S86 := ((((f18.keepX K27 (E11.keep K16) (by decide) (wk G 1 rfl)).keep K32).ext X39).keepX K51 E40 (by decide) (wk G 1 rfl))
              have K87 : Keep h31 h36 [] := ((Keep.refl h31 []).ext X39)
              have K88 : Keep h31 h50 [] := (K87.trans K51 (allS (Or.inr (Nat.le_of_eq g38)) all0))
              have S89 := (f34.keep K88)
              refine go_old (fun O90 => ?_)
              have E91 := ((((E20.keep K27).keep K32).ext X39).keep K51)
              refine callV0 (cells' := 8) (slots' := 20) (Wd := 0) (argsL := [(.ref a37)]) (rest := []) (pay_of (a0 := a0) (c_eqhp l G a8 a37 r17 r33 x2 p2 (tx n1 (x0 &&& (255 : Int32)) ((XT.ushr x0 (8 : Int32)) &&& (255 : Int32))) (tx n2 b0 b1) h50 O90 E85 F83 F84 f52 f53 S86 S89) (wk G 29 rfl) (wk G 2 rfl) (by decide) (by decide)) E91 (wk G 25 rfl) (wk G 26 rfl) (wk G 28 rfl) (wk G 28 rfl) (wk G 27 rfl) (by decide) pd8 rfl rfl (by rw [hml]; rfl) (Nat.le_of_ble_eq_true rfl) rfl rfl (by decide) (by decide) all0 (fun _ _ => sf0) (hb hby at_246) (k_v (pc' := 249) rfl ?_)
              rintro _ h92 (⟨rfl, rfl, f94, f95⟩ | ⟨rfl, rfl, f96⟩) K93
              · exact absurd f95 c57
              · refine go_iload (pc' := 251) (hb hby at_249) rfl rfl ?_
                refine go_icF (pc' := 254) (hb hby at_251) rfl (by decide) ?_
                refine go_aload (pc' := 256) (hb hby at_254) rfl rfl rfl ?_
                refine go_aload (pc' := 258) (hb hby at_256) rfl rfl rfl ?_
                have E97 := ((((f18.exa.keep K27).keep K32).ext X39).keep K51)
                refine callV0 (cells' := 8) (slots' := 20) (Wd := 0) (argsL := [(.ref a8)]) (rest := []) (pay_of (a0 := a0) (c_eqself l G a8 r17 x2 h50 O90 E91 E97 F83 F84) (wk G 29 rfl) (wk G 2 rfl) (by decide) (by decide)) E91 (wk G 25 rfl) (wk G 26 rfl) (wk G 28 rfl) (wk G 28 rfl) (wk G 27 rfl) (by decide) pd8 rfl rfl (by rw [hml]; rfl) (Nat.le_of_ble_eq_true rfl) rfl rfl (by decide) (by decide) all0 (fun _ _ => sf0) (hb hby at_258) (k_v (pc' := 261) rfl ?_)
                rintro _ h98 ⟨rfl, rfl⟩ K99
                refine go_ifF (pc' := 264) (hb hby at_261) rfl (by decide) ?_
                refine go_iconst (pc' := 265) (v := 1) (hb hby at_264) rfl rfl ?_
                refine go_goto (pc' := 269) (hb hby at_265) (by decide) rfl ?_
                have K100 : Keep h0 h36 [] := (K46.ext X39)
                have K101 : Keep h0 h50 [] := (K100.trans K51 (allS (Or.inr (Nat.le_trans K46.1 (Nat.le_of_eq g38))) all0))
                refine go_ireturn hret hlk rfl (by simp) (hb hby at_269) (by decide) (by decide) ⟨_, rfl, rfl⟩ K101
          · refine go_istore (pc' := 219) (ls' := #[.val (.int x0), .val (.int x1), .val (.int x2), .val (.int x3), .val (.int x4), .val (.int x5), .val (.int (x0 &&& (255 : Int32))), .val (.int ((XT.ushr x0 (8 : Int32)) &&& (255 : Int32))), .val (.int b0), .val (.int b1), .val (.int n1), .val (.int n2), .val (.int p2), .val (.int ((XT.ushr x5 (2 : Int32)) &&& (3 : Int32))), .val (.ref a8), .val (.ref r33), .val (.ref a37), .val (.int (0 : Int32)), .unset]) (hb hby at_217) rfl rfl ?_
            refine go_iload (pc' := 221) (hb hby at_219) rfl rfl ?_
            refine go_ifF (pc' := 224) (hb hby at_221) rfl (XT.i0_ne_f c35) ?_
            refine go_iload (pc' := 226) (hb hby at_224) rfl rfl ?_
            refine go_ifT (pc' := 239) (hb hby at_226) (by decide) rfl (by decide) ?_
            refine go_iconst (pc' := 240) (v := 0) (hb hby at_239) rfl rfl ?_
            refine go_istore (pc' := 242) (ls' := #[.val (.int x0), .val (.int x1), .val (.int x2), .val (.int x3), .val (.int x4), .val (.int x5), .val (.int (x0 &&& (255 : Int32))), .val (.int ((XT.ushr x0 (8 : Int32)) &&& (255 : Int32))), .val (.int b0), .val (.int b1), .val (.int n1), .val (.int n2), .val (.int p2), .val (.int ((XT.ushr x5 (2 : Int32)) &&& (3 : Int32))), .val (.ref a8), .val (.ref r33), .val (.ref a37), .val (.int (0 : Int32)), .val (.int (0 : Int32))]) (hb hby at_240) rfl rfl ?_
            refine go_aload (pc' := 244) (hb hby at_242) rfl rfl rfl ?_
            refine go_aload (pc' := 246) (hb hby at_244) rfl rfl rfl ?_
            have K102 : Keep h26 h31 [] := ((Keep.refl h26 []).trans K32 all0)
            have K103 : Keep h26 h36 [] := (K102.ext X39)
            have K104 : Keep h26 h50 [] := (K103.trans K51 (allS (Or.inr (Nat.le_trans K102.1 (Nat.le_of_eq g38))) all0))
            have F105 := (f28.keep K104 nin0)
            have F106 := (f29.keep K104 nin0)
            have E107 := (E40.keep K51)
            have S108 := ((((f18.keepX K27 (E11.keep K16) (by decide) (wk G 1 rfl)).keep K32).ext X39).keepX K51 E40 (by decide) (wk G 1 rfl))
            have K109 : Keep h31 h36 [] := ((Keep.refl h31 []).ext X39)
            have K110 : Keep h31 h50 [] := (K109.trans K51 (allS (Or.inr (Nat.le_of_eq g38)) all0))
            have S111 := (f34.keep K110)
            refine go_old (fun O112 => ?_)
            have E113 := ((((E20.keep K27).keep K32).ext X39).keep K51)
            refine callV0 (cells' := 8) (slots' := 20) (Wd := 0) (argsL := [(.ref a37)]) (rest := []) (pay_of (a0 := a0) (c_eqhp l G a8 a37 r17 r33 x2 p2 (tx n1 (x0 &&& (255 : Int32)) ((XT.ushr x0 (8 : Int32)) &&& (255 : Int32))) (tx n2 b0 b1) h50 O112 E107 F105 F106 f52 f53 S108 S111) (wk G 29 rfl) (wk G 2 rfl) (by decide) (by decide)) E113 (wk G 25 rfl) (wk G 26 rfl) (wk G 28 rfl) (wk G 28 rfl) (wk G 27 rfl) (by decide) pd8 rfl rfl (by rw [hml]; rfl) (Nat.le_of_ble_eq_true rfl) rfl rfl (by decide) (by decide) all0 (fun _ _ => sf0) (hb hby at_246) (k_v (pc' := 249) rfl ?_)
            rintro _ h114 (⟨rfl, rfl, f116, f117⟩ | ⟨rfl, rfl, f118⟩) K115
            · exact absurd f116 e56
            · refine go_iload (pc' := 251) (hb hby at_249) rfl rfl ?_
              refine go_icF (pc' := 254) (hb hby at_251) rfl (by decide) ?_
              refine go_aload (pc' := 256) (hb hby at_254) rfl rfl rfl ?_
              refine go_aload (pc' := 258) (hb hby at_256) rfl rfl rfl ?_
              have E119 := ((((f18.exa.keep K27).keep K32).ext X39).keep K51)
              refine callV0 (cells' := 8) (slots' := 20) (Wd := 0) (argsL := [(.ref a8)]) (rest := []) (pay_of (a0 := a0) (c_eqself l G a8 r17 x2 h50 O112 E113 E119 F105 F106) (wk G 29 rfl) (wk G 2 rfl) (by decide) (by decide)) E113 (wk G 25 rfl) (wk G 26 rfl) (wk G 28 rfl) (wk G 28 rfl) (wk G 27 rfl) (by decide) pd8 rfl rfl (by rw [hml]; rfl) (Nat.le_of_ble_eq_true rfl) rfl rfl (by decide) (by decide) all0 (fun _ _ => sf0) (hb hby at_258) (k_v (pc' := 261) rfl ?_)
              rintro _ h120 ⟨rfl, rfl⟩ K121
              refine go_ifF (pc' := 264) (hb hby at_261) rfl (by decide) ?_
              refine go_iconst (pc' := 265) (v := 1) (hb hby at_264) rfl rfl ?_
              refine go_goto (pc' := 269) (hb hby at_265) (by decide) rfl ?_
              have K122 : Keep h0 h36 [] := (K46.ext X39)
              have K123 : Keep h0 h50 [] := (K122.trans K51 (allS (Or.inr (Nat.le_trans K46.1 (Nat.le_of_eq g38))) all0))
              refine go_ireturn hret hlk rfl (by simp) (hb hby at_269) (by decide) (by decide) ⟨_, rfl, rfl⟩ K123
        · intro J54
          refine go_iload (pc' := 181) (hb hby at_179) rfl rfl ?_
          refine go_iload (pc' := 183) (hb hby at_181) rfl rfl ?_
          by_cases c124 : n1 = n2
          · refine go_icF (pc' := 186) (hb hby at_183) rfl (XT.ii_ne_f c124) ?_
            refine go_iload (pc' := 188) (hb hby at_186) rfl rfl ?_
            refine go_iconst (pc' := 189) (v := 1) (hb hby at_188) rfl rfl ?_
            by_cases c125 : n1 < (1 : Int32)
            · refine go_icT (pc' := 199) (hb hby at_189) (by decide) rfl (XT.ii_lt_t c125) ?_
              refine go_iload (pc' := 201) (hb hby at_199) rfl rfl ?_
              refine go_iconst (pc' := 202) (v := 2) (hb hby at_201) rfl rfl ?_
              refine go_icT (pc' := 212) (hb hby at_202) (by decide) rfl (XT.ii_lt_t (lt12 c125)) ?_
              refine go_iconst (pc' := 213) (v := 1) (hb hby at_212) rfl rfl ?_
              refine go_goto (pc' := 217) (hb hby at_213) (by decide) rfl ?_
              exact J54 (1 : Int32) (Or.inl ⟨rfl, sb1 q5 c124 (Or.inl c125) (Or.inl (lt12 c125))⟩)
            · refine go_icF (pc' := 192) (hb hby at_189) rfl (XT.ii_lt_f c125) ?_
              refine go_iload (pc' := 194) (hb hby at_192) rfl rfl ?_
              refine go_iload (pc' := 196) (hb hby at_194) rfl rfl ?_
              by_cases c126 : (x0 &&& (255 : Int32)) = b0
              · refine go_icF (pc' := 199) (hb hby at_196) rfl (XT.ii_ne_f c126) ?_
                refine go_iload (pc' := 201) (hb hby at_199) rfl rfl ?_
                refine go_iconst (pc' := 202) (v := 2) (hb hby at_201) rfl rfl ?_
                by_cases c127 : n1 < (2 : Int32)
                · refine go_icT (pc' := 212) (hb hby at_202) (by decide) rfl (XT.ii_lt_t c127) ?_
                  refine go_iconst (pc' := 213) (v := 1) (hb hby at_212) rfl rfl ?_
                  refine go_goto (pc' := 217) (hb hby at_213) (by decide) rfl ?_
                  exact J54 (1 : Int32) (Or.inl ⟨rfl, sb1 q5 c124 (Or.inr c126) (Or.inl c127)⟩)
                · refine go_icF (pc' := 205) (hb hby at_202) rfl (XT.ii_lt_f c127) ?_
                  refine go_iload (pc' := 207) (hb hby at_205) rfl rfl ?_
                  refine go_iload (pc' := 209) (hb hby at_207) rfl rfl ?_
                  by_cases c128 : ((XT.ushr x0 (8 : Int32)) &&& (255 : Int32)) = b1
                  · refine go_icF (pc' := 212) (hb hby at_209) rfl (XT.ii_ne_f c128) ?_
                    refine go_iconst (pc' := 213) (v := 1) (hb hby at_212) rfl rfl ?_
                    refine go_goto (pc' := 217) (hb hby at_213) (by decide) rfl ?_
                    exact J54 (1 : Int32) (Or.inl ⟨rfl, sb1 q5 c124 (Or.inr c126) (Or.inr c128)⟩)
                  · refine go_icT (pc' := 216) (hb hby at_209) (by decide) rfl (XT.ii_ne_t c128) ?_
                    refine go_iconst (pc' := 217) (v := 0) (hb hby at_216) rfl rfl ?_
                    exact J54 (0 : Int32) (Or.inr ⟨rfl, sb0c q5 c124 c127 c128⟩)
              · refine go_icT (pc' := 216) (hb hby at_196) (by decide) rfl (XT.ii_ne_t c126) ?_
                refine go_iconst (pc' := 217) (v := 0) (hb hby at_216) rfl rfl ?_
                exact J54 (0 : Int32) (Or.inr ⟨rfl, sb0b q5 c124 c125 c126⟩)
          · refine go_icT (pc' := 216) (hb hby at_183) (by decide) rfl (XT.ii_ne_t c124) ?_
            refine go_iconst (pc' := 217) (v := 0) (hb hby at_216) rfl rfl ?_
            exact J54 (0 : Int32) (Or.inr ⟨rfl, sb0a q5 q6 c124⟩)
      · refine go_ifT (pc' := 147) (hb hby at_128) (by decide) rfl (XT.i0_ne_t c35) ?_
        refine go_iload (pc' := 149) (hb hby at_147) rfl rfl ?_
        refine go_iconst (pc' := 150) (v := 1) (hb hby at_149) rfl rfl ?_
        by_cases c129 : ((XT.ushr x5 (2 : Int32)) &&& (3 : Int32)) = (1 : Int32)
        · refine go_icF (pc' := 153) (hb hby at_150) rfl (XT.ii_ne_f c129) ?_
          refine go_aconst_null (pc' := 154) (hb hby at_153) rfl ?_
          refine go_astore (pc' := 156) (ls' := #[.val (.int x0), .val (.int x1), .val (.int x2), .val (.int x3), .val (.int x4), .val (.int x5), .val (.int (x0 &&& (255 : Int32))), .val (.int ((XT.ushr x0 (8 : Int32)) &&& (255 : Int32))), .val (.int b0), .val (.int b1), .val (.int n1), .val (.int n2), .val (.int p2), .val (.int ((XT.ushr x5 (2 : Int32)) &&& (3 : Int32))), .val (.ref a8), .val (.ref r33), .val .null, .unset, .unset]) (hb hby at_154) rfl rfl rfl ?_
          refine go_goto (pc' := 179) (hb hby at_156) (by decide) rfl ?_
          refine go_cut (α := Int32) (P := fun q => ((q = 1 ∧ tx n1 (x0 &&& (255 : Int32)) ((XT.ushr x0 (8 : Int32)) &&& (255 : Int32)) = tx n2 b0 b1) ∨ (q = 0 ∧ ¬ tx n1 (x0 &&& (255 : Int32)) ((XT.ushr x0 (8 : Int32)) &&& (255 : Int32)) = tx n2 b0 b1))) (gf := fun q => mkF m_ 217 #[.val (.int x0), .val (.int x1), .val (.int x2), .val (.int x3), .val (.int x4), .val (.int x5), .val (.int (x0 &&& (255 : Int32))), .val (.int ((XT.ushr x0 (8 : Int32)) &&& (255 : Int32))), .val (.int b0), .val (.int b1), .val (.int n1), .val (.int n2), .val (.int p2), .val (.int ((XT.ushr x5 (2 : Int32)) &&& (3 : Int32))), .val (.ref a8), .val (.ref r33), .val .null, .unset, .unset] [(.int q)]) ?_ ?_
          · rintro sb q131
            try dsimp only
            rcases q131 with ⟨rfl, e132⟩ | ⟨rfl, e132⟩
            · refine go_istore (pc' := 219) (ls' := #[.val (.int x0), .val (.int x1), .val (.int x2), .val (.int x3), .val (.int x4), .val (.int x5), .val (.int (x0 &&& (255 : Int32))), .val (.int ((XT.ushr x0 (8 : Int32)) &&& (255 : Int32))), .val (.int b0), .val (.int b1), .val (.int n1), .val (.int n2), .val (.int p2), .val (.int ((XT.ushr x5 (2 : Int32)) &&& (3 : Int32))), .val (.ref a8), .val (.ref r33), .val .null, .val (.int (1 : Int32)), .unset]) (hb hby at_217) rfl rfl ?_
              refine go_iload (pc' := 221) (hb hby at_219) rfl rfl ?_
              refine go_ifT (pc' := 239) (hb hby at_221) (by decide) rfl (XT.i0_ne_t c35) ?_
              refine go_iconst (pc' := 240) (v := 0) (hb hby at_239) rfl rfl ?_
              refine go_istore (pc' := 242) (ls' := #[.val (.int x0), .val (.int x1), .val (.int x2), .val (.int x3), .val (.int x4), .val (.int x5), .val (.int (x0 &&& (255 : Int32))), .val (.int ((XT.ushr x0 (8 : Int32)) &&& (255 : Int32))), .val (.int b0), .val (.int b1), .val (.int n1), .val (.int n2), .val (.int p2), .val (.int ((XT.ushr x5 (2 : Int32)) &&& (3 : Int32))), .val (.ref a8), .val (.ref r33), .val .null, .val (.int (1 : Int32)), .val (.int (0 : Int32))]) (hb hby at_240) rfl rfl ?_
              refine go_aload (pc' := 244) (hb hby at_242) rfl rfl rfl ?_
              refine go_aload (pc' := 246) (hb hby at_244) rfl rfl rfl ?_
              refine go_old (fun O133 => ?_)
              have E134 := ((E20.keep K27).keep K32)
              refine callV0 (cells' := 7) (slots' := 18) (Wd := 0) (argsL := [.null]) (rest := []) (pay_of (a0 := a0) (c_eqnull l G a8 h31 O133 ) (wk G 29 rfl) (wk G 2 rfl) (by decide) (by decide)) E134 (wk G 25 rfl) (wk G 26 rfl) (wk G 28 rfl) (wk G 28 rfl) (wk G 27 rfl) (by decide) pd8 rfl rfl (by rw [hml]; rfl) (Nat.le_of_ble_eq_true rfl) rfl rfl (by decide) (by decide) all0 (fun _ _ => sf0) (hb hby at_246) (k_v (pc' := 249) rfl ?_)
              rintro _ h135 ⟨rfl, rfl⟩ K136
              refine go_iload (pc' := 251) (hb hby at_249) rfl rfl ?_
              refine go_icF (pc' := 254) (hb hby at_251) rfl (by decide) ?_
              refine go_aload (pc' := 256) (hb hby at_254) rfl rfl rfl ?_
              refine go_aload (pc' := 258) (hb hby at_256) rfl rfl rfl ?_
              have K137 : Keep h26 h31 [] := ((Keep.refl h26 []).trans K32 all0)
              have F138 := (f28.keep K137 nin0)
              have F139 := (f29.keep K137 nin0)
              have E140 := ((f18.exa.keep K27).keep K32)
              refine callV0 (cells' := 7) (slots' := 18) (Wd := 0) (argsL := [(.ref a8)]) (rest := []) (pay_of (a0 := a0) (c_eqself l G a8 r17 x2 h31 O133 E134 E140 F138 F139) (wk G 29 rfl) (wk G 2 rfl) (by decide) (by decide)) E134 (wk G 25 rfl) (wk G 26 rfl) (wk G 28 rfl) (wk G 28 rfl) (wk G 27 rfl) (by decide) pd8 rfl rfl (by rw [hml]; rfl) (Nat.le_of_ble_eq_true rfl) rfl rfl (by decide) (by decide) all0 (fun _ _ => sf0) (hb hby at_258) (k_v (pc' := 261) rfl ?_)
              rintro _ h141 ⟨rfl, rfl⟩ K142
              refine go_ifF (pc' := 264) (hb hby at_261) rfl (by decide) ?_
              refine go_iconst (pc' := 265) (v := 1) (hb hby at_264) rfl rfl ?_
              refine go_goto (pc' := 269) (hb hby at_265) (by decide) rfl ?_
              have K143 : Keep h0 h7 [] := ((Keep.refl h0 []).ext X10)
              have K144 : Keep h0 h15 [] := (K143.trans K16 all0)
              have K145 : Keep h0 h26 [] := (K144.trans K27 (allS (Or.inr (Nat.le_of_eq g9)) all0))
              have K146 : Keep h0 h31 [] := (K145.trans K32 all0)
              refine go_ireturn hret hlk rfl (by simp) (hb hby at_269) (by decide) (by decide) ⟨_, rfl, rfl⟩ K146
            · refine go_istore (pc' := 219) (ls' := #[.val (.int x0), .val (.int x1), .val (.int x2), .val (.int x3), .val (.int x4), .val (.int x5), .val (.int (x0 &&& (255 : Int32))), .val (.int ((XT.ushr x0 (8 : Int32)) &&& (255 : Int32))), .val (.int b0), .val (.int b1), .val (.int n1), .val (.int n2), .val (.int p2), .val (.int ((XT.ushr x5 (2 : Int32)) &&& (3 : Int32))), .val (.ref a8), .val (.ref r33), .val .null, .val (.int (0 : Int32)), .unset]) (hb hby at_217) rfl rfl ?_
              refine go_iload (pc' := 221) (hb hby at_219) rfl rfl ?_
              refine go_ifT (pc' := 239) (hb hby at_221) (by decide) rfl (XT.i0_ne_t c35) ?_
              refine go_iconst (pc' := 240) (v := 0) (hb hby at_239) rfl rfl ?_
              refine go_istore (pc' := 242) (ls' := #[.val (.int x0), .val (.int x1), .val (.int x2), .val (.int x3), .val (.int x4), .val (.int x5), .val (.int (x0 &&& (255 : Int32))), .val (.int ((XT.ushr x0 (8 : Int32)) &&& (255 : Int32))), .val (.int b0), .val (.int b1), .val (.int n1), .val (.int n2), .val (.int p2), .val (.int ((XT.ushr x5 (2 : Int32)) &&& (3 : Int32))), .val (.ref a8), .val (.ref r33), .val .null, .val (.int (0 : Int32)), .val (.int (0 : Int32))]) (hb hby at_240) rfl rfl ?_
              refine go_aload (pc' := 244) (hb hby at_242) rfl rfl rfl ?_
              refine go_aload (pc' := 246) (hb hby at_244) rfl rfl rfl ?_
              refine go_old (fun O147 => ?_)
              have E148 := ((E20.keep K27).keep K32)
              refine callV0 (cells' := 7) (slots' := 18) (Wd := 0) (argsL := [.null]) (rest := []) (pay_of (a0 := a0) (c_eqnull l G a8 h31 O147 ) (wk G 29 rfl) (wk G 2 rfl) (by decide) (by decide)) E148 (wk G 25 rfl) (wk G 26 rfl) (wk G 28 rfl) (wk G 28 rfl) (wk G 27 rfl) (by decide) pd8 rfl rfl (by rw [hml]; rfl) (Nat.le_of_ble_eq_true rfl) rfl rfl (by decide) (by decide) all0 (fun _ _ => sf0) (hb hby at_246) (k_v (pc' := 249) rfl ?_)
              rintro _ h149 ⟨rfl, rfl⟩ K150
              refine go_iload (pc' := 251) (hb hby at_249) rfl rfl ?_
              refine go_icF (pc' := 254) (hb hby at_251) rfl (by decide) ?_
              refine go_aload (pc' := 256) (hb hby at_254) rfl rfl rfl ?_
              refine go_aload (pc' := 258) (hb hby at_256) rfl rfl rfl ?_
              have K151 : Keep h26 h31 [] := ((Keep.refl h26 []).trans K32 all0)
              have F152 := (f28.keep K151 nin0)
              have F153 := (f29.keep K151 nin0)
              have E154 := ((f18.exa.keep K27).keep K32)
              refine callV0 (cells' := 7) (slots' := 18) (Wd := 0) (argsL := [(.ref a8)]) (rest := []) (pay_of (a0 := a0) (c_eqself l G a8 r17 x2 h31 O147 E148 E154 F152 F153) (wk G 29 rfl) (wk G 2 rfl) (by decide) (by decide)) E148 (wk G 25 rfl) (wk G 26 rfl) (wk G 28 rfl) (wk G 28 rfl) (wk G 27 rfl) (by decide) pd8 rfl rfl (by rw [hml]; rfl) (Nat.le_of_ble_eq_true rfl) rfl rfl (by decide) (by decide) all0 (fun _ _ => sf0) (hb hby at_258) (k_v (pc' := 261) rfl ?_)
              rintro _ h155 ⟨rfl, rfl⟩ K156
              refine go_ifF (pc' := 264) (hb hby at_261) rfl (by decide) ?_
              refine go_iconst (pc' := 265) (v := 1) (hb hby at_264) rfl rfl ?_
              refine go_goto (pc' := 269) (hb hby at_265) (by decide) rfl ?_
              have K157 : Keep h0 h7 [] := ((Keep.refl h0 []).ext X10)
              have K158 : Keep h0 h15 [] := (K157.trans K16 all0)
              have K159 : Keep h0 h26 [] := (K158.trans K27 (allS (Or.inr (Nat.le_of_eq g9)) all0))
              have K160 : Keep h0 h31 [] := (K159.trans K32 all0)
              refine go_ireturn hret hlk rfl (by simp) (hb hby at_269) (by decide) (by decide) ⟨_, rfl, rfl⟩ K160
          · intro J130
            refine go_iload (pc' := 181) (hb hby at_179) rfl rfl ?_
            refine go_iload (pc' := 183) (hb hby at_181) rfl rfl ?_
            by_cases c161 : n1 = n2
            · refine go_icF (pc' := 186) (hb hby at_183) rfl (XT.ii_ne_f c161) ?_
              refine go_iload (pc' := 188) (hb hby at_186) rfl rfl ?_
              refine go_iconst (pc' := 189) (v := 1) (hb hby at_188) rfl rfl ?_
              by_cases c162 : n1 < (1 : Int32)
              · refine go_icT (pc' := 199) (hb hby at_189) (by decide) rfl (XT.ii_lt_t c162) ?_
                refine go_iload (pc' := 201) (hb hby at_199) rfl rfl ?_
                refine go_iconst (pc' := 202) (v := 2) (hb hby at_201) rfl rfl ?_
                refine go_icT (pc' := 212) (hb hby at_202) (by decide) rfl (XT.ii_lt_t (lt12 c162)) ?_
                refine go_iconst (pc' := 213) (v := 1) (hb hby at_212) rfl rfl ?_
                refine go_goto (pc' := 217) (hb hby at_213) (by decide) rfl ?_
                exact J130 (1 : Int32) (Or.inl ⟨rfl, sb1 q5 c161 (Or.inl c162) (Or.inl (lt12 c162))⟩)
              · refine go_icF (pc' := 192) (hb hby at_189) rfl (XT.ii_lt_f c162) ?_
                refine go_iload (pc' := 194) (hb hby at_192) rfl rfl ?_
                refine go_iload (pc' := 196) (hb hby at_194) rfl rfl ?_
                by_cases c163 : (x0 &&& (255 : Int32)) = b0
                · refine go_icF (pc' := 199) (hb hby at_196) rfl (XT.ii_ne_f c163) ?_
                  refine go_iload (pc' := 201) (hb hby at_199) rfl rfl ?_
                  refine go_iconst (pc' := 202) (v := 2) (hb hby at_201) rfl rfl ?_
                  by_cases c164 : n1 < (2 : Int32)
                  · refine go_icT (pc' := 212) (hb hby at_202) (by decide) rfl (XT.ii_lt_t c164) ?_
                    refine go_iconst (pc' := 213) (v := 1) (hb hby at_212) rfl rfl ?_
                    refine go_goto (pc' := 217) (hb hby at_213) (by decide) rfl ?_
                    exact J130 (1 : Int32) (Or.inl ⟨rfl, sb1 q5 c161 (Or.inr c163) (Or.inl c164)⟩)
                  · refine go_icF (pc' := 205) (hb hby at_202) rfl (XT.ii_lt_f c164) ?_
                    refine go_iload (pc' := 207) (hb hby at_205) rfl rfl ?_
                    refine go_iload (pc' := 209) (hb hby at_207) rfl rfl ?_
                    by_cases c165 : ((XT.ushr x0 (8 : Int32)) &&& (255 : Int32)) = b1
                    · refine go_icF (pc' := 212) (hb hby at_209) rfl (XT.ii_ne_f c165) ?_
                      refine go_iconst (pc' := 213) (v := 1) (hb hby at_212) rfl rfl ?_
                      refine go_goto (pc' := 217) (hb hby at_213) (by decide) rfl ?_
                      exact J130 (1 : Int32) (Or.inl ⟨rfl, sb1 q5 c161 (Or.inr c163) (Or.inr c165)⟩)
                    · refine go_icT (pc' := 216) (hb hby at_209) (by decide) rfl (XT.ii_ne_t c165) ?_
                      refine go_iconst (pc' := 217) (v := 0) (hb hby at_216) rfl rfl ?_
                      exact J130 (0 : Int32) (Or.inr ⟨rfl, sb0c q5 c161 c164 c165⟩)
                · refine go_icT (pc' := 216) (hb hby at_196) (by decide) rfl (XT.ii_ne_t c163) ?_
                  refine go_iconst (pc' := 217) (v := 0) (hb hby at_216) rfl rfl ?_
                  exact J130 (0 : Int32) (Or.inr ⟨rfl, sb0b q5 c161 c162 c163⟩)
            · refine go_icT (pc' := 216) (hb hby at_183) (by decide) rfl (XT.ii_ne_t c161) ?_
              refine go_iconst (pc' := 217) (v := 0) (hb hby at_216) rfl rfl ?_
              exact J130 (0 : Int32) (Or.inr ⟨rfl, sb0a q5 q6 c161⟩)
        · refine go_icT (pc' := 159) (hb hby at_150) (by decide) rfl (XT.ii_ne_t c129) ?_
          refine go_iload (pc' := 161) (hb hby at_159) rfl rfl ?_
          refine go_iconst (pc' := 162) (v := 2) (hb hby at_161) rfl rfl ?_
          by_cases c166 : ((XT.ushr x5 (2 : Int32)) &&& (3 : Int32)) = (2 : Int32)
          · refine go_icF (pc' := 165) (hb hby at_162) rfl (XT.ii_ne_f c166) ?_
            refine go_aload (pc' := 167) (hb hby at_165) rfl rfl rfl ?_
            refine go_astore (pc' := 169) (ls' := #[.val (.int x0), .val (.int x1), .val (.int x2), .val (.int x3), .val (.int x4), .val (.int x5), .val (.int (x0 &&& (255 : Int32))), .val (.int ((XT.ushr x0 (8 : Int32)) &&& (255 : Int32))), .val (.int b0), .val (.int b1), .val (.int n1), .val (.int n2), .val (.int p2), .val (.int ((XT.ushr x5 (2 : Int32)) &&& (3 : Int32))), .val (.ref a8), .val (.ref r33), .val (.ref r33), .unset, .unset]) (hb hby at_167) rfl rfl rfl ?_
            refine go_goto (pc' := 179) (hb hby at_169) (by decide) rfl ?_
            refine go_cut (α := Int32) (P := fun q => ((q = 1 ∧ tx n1 (x0 &&& (255 : Int32)) ((XT.ushr x0 (8 : Int32)) &&& (255 : Int32)) = tx n2 b0 b1) ∨ (q = 0 ∧ ¬ tx n1 (x0 &&& (255 : Int32)) ((XT.ushr x0 (8 : Int32)) &&& (255 : Int32)) = tx n2 b0 b1))) (gf := fun q => mkF m_ 217 #[.val (.int x0), .val (.int x1), .val (.int x2), .val (.int x3), .val (.int x4), .val (.int x5), .val (.int (x0 &&& (255 : Int32))), .val (.int ((XT.ushr x0 (8 : Int32)) &&& (255 : Int32))), .val (.int b0), .val (.int b1), .val (.int n1), .val (.int n2), .val (.int p2), .val (.int ((XT.ushr x5 (2 : Int32)) &&& (3 : Int32))), .val (.ref a8), .val (.ref r33), .val (.ref r33), .unset, .unset] [(.int q)]) ?_ ?_
            · rintro sb q168
              try dsimp only
              rcases q168 with ⟨rfl, e169⟩ | ⟨rfl, e169⟩
              · refine go_istore (pc' := 219) (ls' := #[.val (.int x0), .val (.int x1), .val (.int x2), .val (.int x3), .val (.int x4), .val (.int x5), .val (.int (x0 &&& (255 : Int32))), .val (.int ((XT.ushr x0 (8 : Int32)) &&& (255 : Int32))), .val (.int b0), .val (.int b1), .val (.int n1), .val (.int n2), .val (.int p2), .val (.int ((XT.ushr x5 (2 : Int32)) &&& (3 : Int32))), .val (.ref a8), .val (.ref r33), .val (.ref r33), .val (.int (1 : Int32)), .unset]) (hb hby at_217) rfl rfl ?_
                refine go_iload (pc' := 221) (hb hby at_219) rfl rfl ?_
                refine go_ifT (pc' := 239) (hb hby at_221) (by decide) rfl (XT.i0_ne_t c35) ?_
                refine go_iconst (pc' := 240) (v := 0) (hb hby at_239) rfl rfl ?_
                refine go_istore (pc' := 242) (ls' := #[.val (.int x0), .val (.int x1), .val (.int x2), .val (.int x3), .val (.int x4), .val (.int x5), .val (.int (x0 &&& (255 : Int32))), .val (.int ((XT.ushr x0 (8 : Int32)) &&& (255 : Int32))), .val (.int b0), .val (.int b1), .val (.int n1), .val (.int n2), .val (.int p2), .val (.int ((XT.ushr x5 (2 : Int32)) &&& (3 : Int32))), .val (.ref a8), .val (.ref r33), .val (.ref r33), .val (.int (1 : Int32)), .val (.int (0 : Int32))]) (hb hby at_240) rfl rfl ?_
                refine go_aload (pc' := 244) (hb hby at_242) rfl rfl rfl ?_
                refine go_aload (pc' := 246) (hb hby at_244) rfl rfl rfl ?_
                refine go_old (fun O170 => ?_)
                have E171 := ((E20.keep K27).keep K32)
                refine callV0 (cells' := 7) (slots' := 18) (Wd := 0) (argsL := [(.ref r33)]) (rest := []) (pay_of (a0 := a0) (c_eqothing l G a8 r33 h31 O170 f34.exa) (wk G 29 rfl) (wk G 2 rfl) (by decide) (by decide)) E171 (wk G 25 rfl) (wk G 26 rfl) (wk G 28 rfl) (wk G 28 rfl) (wk G 27 rfl) (by decide) pd8 rfl rfl (by rw [hml]; rfl) (Nat.le_of_ble_eq_true rfl) rfl rfl (by decide) (by decide) all0 (fun _ _ => sf0) (hb hby at_246) (k_v (pc' := 249) rfl ?_)
                rintro _ h172 ⟨rfl, rfl⟩ K173
                refine go_iload (pc' := 251) (hb hby at_249) rfl rfl ?_
                refine go_icF (pc' := 254) (hb hby at_251) rfl (by decide) ?_
                refine go_aload (pc' := 256) (hb hby at_254) rfl rfl rfl ?_
                refine go_aload (pc' := 258) (hb hby at_256) rfl rfl rfl ?_
                have K174 : Keep h26 h31 [] := ((Keep.refl h26 []).trans K32 all0)
                have F175 := (f28.keep K174 nin0)
                have F176 := (f29.keep K174 nin0)
                have E177 := ((f18.exa.keep K27).keep K32)
                refine callV0 (cells' := 7) (slots' := 18) (Wd := 0) (argsL := [(.ref a8)]) (rest := []) (pay_of (a0 := a0) (c_eqself l G a8 r17 x2 h31 O170 E171 E177 F175 F176) (wk G 29 rfl) (wk G 2 rfl) (by decide) (by decide)) E171 (wk G 25 rfl) (wk G 26 rfl) (wk G 28 rfl) (wk G 28 rfl) (wk G 27 rfl) (by decide) pd8 rfl rfl (by rw [hml]; rfl) (Nat.le_of_ble_eq_true rfl) rfl rfl (by decide) (by decide) all0 (fun _ _ => sf0) (hb hby at_258) (k_v (pc' := 261) rfl ?_)
                rintro _ h178 ⟨rfl, rfl⟩ K179
                refine go_ifF (pc' := 264) (hb hby at_261) rfl (by decide) ?_
                refine go_iconst (pc' := 265) (v := 1) (hb hby at_264) rfl rfl ?_
                refine go_goto (pc' := 269) (hb hby at_265) (by decide) rfl ?_
                have K180 : Keep h0 h7 [] := ((Keep.refl h0 []).ext X10)
                have K181 : Keep h0 h15 [] := (K180.trans K16 all0)
                have K182 : Keep h0 h26 [] := (K181.trans K27 (allS (Or.inr (Nat.le_of_eq g9)) all0))
                have K183 : Keep h0 h31 [] := (K182.trans K32 all0)
                refine go_ireturn hret hlk rfl (by simp) (hb hby at_269) (by decide) (by decide) ⟨_, rfl, rfl⟩ K183
              · refine go_istore (pc' := 219) (ls' := #[.val (.int x0), .val (.int x1), .val (.int x2), .val (.int x3), .val (.int x4), .val (.int x5), .val (.int (x0 &&& (255 : Int32))), .val (.int ((XT.ushr x0 (8 : Int32)) &&& (255 : Int32))), .val (.int b0), .val (.int b1), .val (.int n1), .val (.int n2), .val (.int p2), .val (.int ((XT.ushr x5 (2 : Int32)) &&& (3 : Int32))), .val (.ref a8), .val (.ref r33), .val (.ref r33), .val (.int (0 : Int32)), .unset]) (hb hby at_217) rfl rfl ?_
                refine go_iload (pc' := 221) (hb hby at_219) rfl rfl ?_
                refine go_ifT (pc' := 239) (hb hby at_221) (by decide) rfl (XT.i0_ne_t c35) ?_
                refine go_iconst (pc' := 240) (v := 0) (hb hby at_239) rfl rfl ?_
                refine go_istore (pc' := 242) (ls' := #[.val (.int x0), .val (.int x1), .val (.int x2), .val (.int x3), .val (.int x4), .val (.int x5), .val (.int (x0 &&& (255 : Int32))), .val (.int ((XT.ushr x0 (8 : Int32)) &&& (255 : Int32))), .val (.int b0), .val (.int b1), .val (.int n1), .val (.int n2), .val (.int p2), .val (.int ((XT.ushr x5 (2 : Int32)) &&& (3 : Int32))), .val (.ref a8), .val (.ref r33), .val (.ref r33), .val (.int (0 : Int32)), .val (.int (0 : Int32))]) (hb hby at_240) rfl rfl ?_
                refine go_aload (pc' := 244) (hb hby at_242) rfl rfl rfl ?_
                refine go_aload (pc' := 246) (hb hby at_244) rfl rfl rfl ?_
                refine go_old (fun O184 => ?_)
                have E185 := ((E20.keep K27).keep K32)
                refine callV0 (cells' := 7) (slots' := 18) (Wd := 0) (argsL := [(.ref r33)]) (rest := []) (pay_of (a0 := a0) (c_eqothing l G a8 r33 h31 O184 f34.exa) (wk G 29 rfl) (wk G 2 rfl) (by decide) (by decide)) E185 (wk G 25 rfl) (wk G 26 rfl) (wk G 28 rfl) (wk G 28 rfl) (wk G 27 rfl) (by decide) pd8 rfl rfl (by rw [hml]; rfl) (Nat.le_of_ble_eq_true rfl) rfl rfl (by decide) (by decide) all0 (fun _ _ => sf0) (hb hby at_246) (k_v (pc' := 249) rfl ?_)
                rintro _ h186 ⟨rfl, rfl⟩ K187
                refine go_iload (pc' := 251) (hb hby at_249) rfl rfl ?_
                refine go_icF (pc' := 254) (hb hby at_251) rfl (by decide) ?_
                refine go_aload (pc' := 256) (hb hby at_254) rfl rfl rfl ?_
                refine go_aload (pc' := 258) (hb hby at_256) rfl rfl rfl ?_
                have K188 : Keep h26 h31 [] := ((Keep.refl h26 []).trans K32 all0)
                have F189 := (f28.keep K188 nin0)
                have F190 := (f29.keep K188 nin0)
                have E191 := ((f18.exa.keep K27).keep K32)
                refine callV0 (cells' := 7) (slots' := 18) (Wd := 0) (argsL := [(.ref a8)]) (rest := []) (pay_of (a0 := a0) (c_eqself l G a8 r17 x2 h31 O184 E185 E191 F189 F190) (wk G 29 rfl) (wk G 2 rfl) (by decide) (by decide)) E185 (wk G 25 rfl) (wk G 26 rfl) (wk G 28 rfl) (wk G 28 rfl) (wk G 27 rfl) (by decide) pd8 rfl rfl (by rw [hml]; rfl) (Nat.le_of_ble_eq_true rfl) rfl rfl (by decide) (by decide) all0 (fun _ _ => sf0) (hb hby at_258) (k_v (pc' := 261) rfl ?_)
                rintro _ h192 ⟨rfl, rfl⟩ K193
                refine go_ifF (pc' := 264) (hb hby at_261) rfl (by decide) ?_
                refine go_iconst (pc' := 265) (v := 1) (hb hby at_264) rfl rfl ?_
                refine go_goto (pc' := 269) (hb hby at_265) (by decide) rfl ?_
                have K194 : Keep h0 h7 [] := ((Keep.refl h0 []).ext X10)
                have K195 : Keep h0 h15 [] := (K194.trans K16 all0)
                have K196 : Keep h0 h26 [] := (K195.trans K27 (allS (Or.inr (Nat.le_of_eq g9)) all0))
                have K197 : Keep h0 h31 [] := (K196.trans K32 all0)
                refine go_ireturn hret hlk rfl (by simp) (hb hby at_269) (by decide) (by decide) ⟨_, rfl, rfl⟩ K197
            · intro J167
              refine go_iload (pc' := 181) (hb hby at_179) rfl rfl ?_
              refine go_iload (pc' := 183) (hb hby at_181) rfl rfl ?_
              by_cases c198 : n1 = n2
              · refine go_icF (pc' := 186) (hb hby at_183) rfl (XT.ii_ne_f c198) ?_
                refine go_iload (pc' := 188) (hb hby at_186) rfl rfl ?_
                refine go_iconst (pc' := 189) (v := 1) (hb hby at_188) rfl rfl ?_
                by_cases c199 : n1 < (1 : Int32)
                · refine go_icT (pc' := 199) (hb hby at_189) (by decide) rfl (XT.ii_lt_t c199) ?_
                  refine go_iload (pc' := 201) (hb hby at_199) rfl rfl ?_
                  refine go_iconst (pc' := 202) (v := 2) (hb hby at_201) rfl rfl ?_
                  refine go_icT (pc' := 212) (hb hby at_202) (by decide) rfl (XT.ii_lt_t (lt12 c199)) ?_
                  refine go_iconst (pc' := 213) (v := 1) (hb hby at_212) rfl rfl ?_
                  refine go_goto (pc' := 217) (hb hby at_213) (by decide) rfl ?_
                  exact J167 (1 : Int32) (Or.inl ⟨rfl, sb1 q5 c198 (Or.inl c199) (Or.inl (lt12 c199))⟩)
                · refine go_icF (pc' := 192) (hb hby at_189) rfl (XT.ii_lt_f c199) ?_
                  refine go_iload (pc' := 194) (hb hby at_192) rfl rfl ?_
                  refine go_iload (pc' := 196) (hb hby at_194) rfl rfl ?_
                  by_cases c200 : (x0 &&& (255 : Int32)) = b0
                  · refine go_icF (pc' := 199) (hb hby at_196) rfl (XT.ii_ne_f c200) ?_
                    refine go_iload (pc' := 201) (hb hby at_199) rfl rfl ?_
                    refine go_iconst (pc' := 202) (v := 2) (hb hby at_201) rfl rfl ?_
                    by_cases c201 : n1 < (2 : Int32)
                    · refine go_icT (pc' := 212) (hb hby at_202) (by decide) rfl (XT.ii_lt_t c201) ?_
                      refine go_iconst (pc' := 213) (v := 1) (hb hby at_212) rfl rfl ?_
                      refine go_goto (pc' := 217) (hb hby at_213) (by decide) rfl ?_
                      exact J167 (1 : Int32) (Or.inl ⟨rfl, sb1 q5 c198 (Or.inr c200) (Or.inl c201)⟩)
                    · refine go_icF (pc' := 205) (hb hby at_202) rfl (XT.ii_lt_f c201) ?_
                      refine go_iload (pc' := 207) (hb hby at_205) rfl rfl ?_
                      refine go_iload (pc' := 209) (hb hby at_207) rfl rfl ?_
                      by_cases c202 : ((XT.ushr x0 (8 : Int32)) &&& (255 : Int32)) = b1
                      · refine go_icF (pc' := 212) (hb hby at_209) rfl (XT.ii_ne_f c202) ?_
                        refine go_iconst (pc' := 213) (v := 1) (hb hby at_212) rfl rfl ?_
                        refine go_goto (pc' := 217) (hb hby at_213) (by decide) rfl ?_
                        exact J167 (1 : Int32) (Or.inl ⟨rfl, sb1 q5 c198 (Or.inr c200) (Or.inr c202)⟩)
                      · refine go_icT (pc' := 216) (hb hby at_209) (by decide) rfl (XT.ii_ne_t c202) ?_
                        refine go_iconst (pc' := 217) (v := 0) (hb hby at_216) rfl rfl ?_
                        exact J167 (0 : Int32) (Or.inr ⟨rfl, sb0c q5 c198 c201 c202⟩)
                  · refine go_icT (pc' := 216) (hb hby at_196) (by decide) rfl (XT.ii_ne_t c200) ?_
                    refine go_iconst (pc' := 217) (v := 0) (hb hby at_216) rfl rfl ?_
                    exact J167 (0 : Int32) (Or.inr ⟨rfl, sb0b q5 c198 c199 c200⟩)
              · refine go_icT (pc' := 216) (hb hby at_183) (by decide) rfl (XT.ii_ne_t c198) ?_
                refine go_iconst (pc' := 217) (v := 0) (hb hby at_216) rfl rfl ?_
                exact J167 (0 : Int32) (Or.inr ⟨rfl, sb0a q5 q6 c198⟩)
          · refine go_icT (pc' := 172) (hb hby at_162) (by decide) rfl (XT.ii_ne_t c166) ?_
            refine go_iload (pc' := 174) (hb hby at_172) rfl rfl ?_
            refine go_old (fun O203 => ?_)
            refine callS0 (cells' := 8) (slots' := 19) (Wd := 0) (argsL := [(.int p2)]) (rest := []) (pay_of (a0 := a0) (c_ivalueof l G p2 h31 O203 ) (wk G 80 rfl) (wk G 79 rfl) (by decide) (by decide)) (wk G 77 rfl) (wk G 78 rfl) (wk G 79 rfl) (wk G 80 rfl) (by decide) pd11 rfl rfl (by rw [hml]; rfl) (Nat.le_of_ble_eq_true rfl) rfl rfl (by decide) (by decide) all0 (fun _ _ => sf0) (hb hby at_174) (k_v (pc' := 177) rfl ?_)
            rintro _ h204 ⟨r206, rfl, f207⟩ K205
            refine go_astore (pc' := 179) (ls' := #[.val (.int x0), .val (.int x1), .val (.int x2), .val (.int x3), .val (.int x4), .val (.int x5), .val (.int (x0 &&& (255 : Int32))), .val (.int ((XT.ushr x0 (8 : Int32)) &&& (255 : Int32))), .val (.int b0), .val (.int b1), .val (.int n1), .val (.int n2), .val (.int p2), .val (.int ((XT.ushr x5 (2 : Int32)) &&& (3 : Int32))), .val (.ref a8), .val (.ref r33), .val (.ref r206), .unset, .unset]) (hb hby at_177) rfl rfl rfl ?_
            refine go_cut (α := Int32) (P := fun q => ((q = 1 ∧ tx n1 (x0 &&& (255 : Int32)) ((XT.ushr x0 (8 : Int32)) &&& (255 : Int32)) = tx n2 b0 b1) ∨ (q = 0 ∧ ¬ tx n1 (x0 &&& (255 : Int32)) ((XT.ushr x0 (8 : Int32)) &&& (255 : Int32)) = tx n2 b0 b1))) (gf := fun q => mkF m_ 217 #[.val (.int x0), .val (.int x1), .val (.int x2), .val (.int x3), .val (.int x4), .val (.int x5), .val (.int (x0 &&& (255 : Int32))), .val (.int ((XT.ushr x0 (8 : Int32)) &&& (255 : Int32))), .val (.int b0), .val (.int b1), .val (.int n1), .val (.int n2), .val (.int p2), .val (.int ((XT.ushr x5 (2 : Int32)) &&& (3 : Int32))), .val (.ref a8), .val (.ref r33), .val (.ref r206), .unset, .unset] [(.int q)]) ?_ ?_
            · rintro sb q209
              try dsimp only
              rcases q209 with ⟨rfl, e210⟩ | ⟨rfl, e210⟩
              · refine go_istore (pc' := 219) (ls' := #[.val (.int x0), .val (.int x1), .val (.int x2), .val (.int x3), .val (.int x4), .val (.int x5), .val (.int (x0 &&& (255 : Int32))), .val (.int ((XT.ushr x0 (8 : Int32)) &&& (255 : Int32))), .val (.int b0), .val (.int b1), .val (.int n1), .val (.int n2), .val (.int p2), .val (.int ((XT.ushr x5 (2 : Int32)) &&& (3 : Int32))), .val (.ref a8), .val (.ref r33), .val (.ref r206), .val (.int (1 : Int32)), .unset]) (hb hby at_217) rfl rfl ?_
                refine go_iload (pc' := 221) (hb hby at_219) rfl rfl ?_
                refine go_ifT (pc' := 239) (hb hby at_221) (by decide) rfl (XT.i0_ne_t c35) ?_
                refine go_iconst (pc' := 240) (v := 0) (hb hby at_239) rfl rfl ?_
                refine go_istore (pc' := 242) (ls' := #[.val (.int x0), .val (.int x1), .val (.int x2), .val (.int x3), .val (.int x4), .val (.int x5), .val (.int (x0 &&& (255 : Int32))), .val (.int ((XT.ushr x0 (8 : Int32)) &&& (255 : Int32))), .val (.int b0), .val (.int b1), .val (.int n1), .val (.int n2), .val (.int p2), .val (.int ((XT.ushr x5 (2 : Int32)) &&& (3 : Int32))), .val (.ref a8), .val (.ref r33), .val (.ref r206), .val (.int (1 : Int32)), .val (.int (0 : Int32))]) (hb hby at_240) rfl rfl ?_
                refine go_aload (pc' := 244) (hb hby at_242) rfl rfl rfl ?_
                refine go_aload (pc' := 246) (hb hby at_244) rfl rfl rfl ?_
                refine go_old (fun O211 => ?_)
                have E212 := (((E20.keep K27).keep K32).keep K205)
                refine callV0 (cells' := 8) (slots' := 19) (Wd := 0) (argsL := [(.ref r206)]) (rest := []) (pay_of (a0 := a0) (c_eqothger l G a8 r206 h204 O211 f207) (wk G 29 rfl) (wk G 2 rfl) (by decide) (by decide)) E212 (wk G 25 rfl) (wk G 26 rfl) (wk G 28 rfl) (wk G 28 rfl) (wk G 27 rfl) (by decide) pd8 rfl rfl (by rw [hml]; rfl) (Nat.le_of_ble_eq_true rfl) rfl rfl (by decide) (by decide) all0 (fun _ _ => sf0) (hb hby at_246) (k_v (pc' := 249) rfl ?_)
                rintro _ h213 ⟨rfl, rfl⟩ K214
                refine go_iload (pc' := 251) (hb hby at_249) rfl rfl ?_
                refine go_icF (pc' := 254) (hb hby at_251) rfl (by decide) ?_
                refine go_aload (pc' := 256) (hb hby at_254) rfl rfl rfl ?_
                refine go_aload (pc' := 258) (hb hby at_256) rfl rfl rfl ?_
                have K215 : Keep h26 h31 [] := ((Keep.refl h26 []).trans K32 all0)
                have K216 : Keep h26 h204 [] := (K215.trans K205 all0)
                have F217 := (f28.keep K216 nin0)
                have F218 := (f29.keep K216 nin0)
                have E219 := (((f18.exa.keep K27).keep K32).keep K205)
                refine callV0 (cells' := 8) (slots' := 19) (Wd := 0) (argsL := [(.ref a8)]) (rest := []) (pay_of (a0 := a0) (c_eqself l G a8 r17 x2 h204 O211 E212 E219 F217 F218) (wk G 29 rfl) (wk G 2 rfl) (by decide) (by decide)) E212 (wk G 25 rfl) (wk G 26 rfl) (wk G 28 rfl) (wk G 28 rfl) (wk G 27 rfl) (by decide) pd8 rfl rfl (by rw [hml]; rfl) (Nat.le_of_ble_eq_true rfl) rfl rfl (by decide) (by decide) all0 (fun _ _ => sf0) (hb hby at_258) (k_v (pc' := 261) rfl ?_)
                rintro _ h220 ⟨rfl, rfl⟩ K221
                refine go_ifF (pc' := 264) (hb hby at_261) rfl (by decide) ?_
                refine go_iconst (pc' := 265) (v := 1) (hb hby at_264) rfl rfl ?_
                refine go_goto (pc' := 269) (hb hby at_265) (by decide) rfl ?_
                have K222 : Keep h0 h7 [] := ((Keep.refl h0 []).ext X10)
                have K223 : Keep h0 h15 [] := (K222.trans K16 all0)
                have K224 : Keep h0 h26 [] := (K223.trans K27 (allS (Or.inr (Nat.le_of_eq g9)) all0))
                have K225 : Keep h0 h31 [] := (K224.trans K32 all0)
                have K226 : Keep h0 h204 [] := (K225.trans K205 all0)
                refine go_ireturn hret hlk rfl (by simp) (hb hby at_269) (by decide) (by decide) ⟨_, rfl, rfl⟩ K226
              · refine go_istore (pc' := 219) (ls' := #[.val (.int x0), .val (.int x1), .val (.int x2), .val (.int x3), .val (.int x4), .val (.int x5), .val (.int (x0 &&& (255 : Int32))), .val (.int ((XT.ushr x0 (8 : Int32)) &&& (255 : Int32))), .val (.int b0), .val (.int b1), .val (.int n1), .val (.int n2), .val (.int p2), .val (.int ((XT.ushr x5 (2 : Int32)) &&& (3 : Int32))), .val (.ref a8), .val (.ref r33), .val (.ref r206), .val (.int (0 : Int32)), .unset]) (hb hby at_217) rfl rfl ?_
                refine go_iload (pc' := 221) (hb hby at_219) rfl rfl ?_
                refine go_ifT (pc' := 239) (hb hby at_221) (by decide) rfl (XT.i0_ne_t c35) ?_
                refine go_iconst (pc' := 240) (v := 0) (hb hby at_239) rfl rfl ?_
                refine go_istore (pc' := 242) (ls' := #[.val (.int x0), .val (.int x1), .val (.int x2), .val (.int x3), .val (.int x4), .val (.int x5), .val (.int (x0 &&& (255 : Int32))), .val (.int ((XT.ushr x0 (8 : Int32)) &&& (255 : Int32))), .val (.int b0), .val (.int b1), .val (.int n1), .val (.int n2), .val (.int p2), .val (.int ((XT.ushr x5 (2 : Int32)) &&& (3 : Int32))), .val (.ref a8), .val (.ref r33), .val (.ref r206), .val (.int (0 : Int32)), .val (.int (0 : Int32))]) (hb hby at_240) rfl rfl ?_
                refine go_aload (pc' := 244) (hb hby at_242) rfl rfl rfl ?_
                refine go_aload (pc' := 246) (hb hby at_244) rfl rfl rfl ?_
                refine go_old (fun O227 => ?_)
                have E228 := (((E20.keep K27).keep K32).keep K205)
                refine callV0 (cells' := 8) (slots' := 19) (Wd := 0) (argsL := [(.ref r206)]) (rest := []) (pay_of (a0 := a0) (c_eqothger l G a8 r206 h204 O227 f207) (wk G 29 rfl) (wk G 2 rfl) (by decide) (by decide)) E228 (wk G 25 rfl) (wk G 26 rfl) (wk G 28 rfl) (wk G 28 rfl) (wk G 27 rfl) (by decide) pd8 rfl rfl (by rw [hml]; rfl) (Nat.le_of_ble_eq_true rfl) rfl rfl (by decide) (by decide) all0 (fun _ _ => sf0) (hb hby at_246) (k_v (pc' := 249) rfl ?_)
                rintro _ h229 ⟨rfl, rfl⟩ K230
                refine go_iload (pc' := 251) (hb hby at_249) rfl rfl ?_
                refine go_icF (pc' := 254) (hb hby at_251) rfl (by decide) ?_
                refine go_aload (pc' := 256) (hb hby at_254) rfl rfl rfl ?_
                refine go_aload (pc' := 258) (hb hby at_256) rfl rfl rfl ?_
                have K231 : Keep h26 h31 [] := ((Keep.refl h26 []).trans K32 all0)
                have K232 : Keep h26 h204 [] := (K231.trans K205 all0)
                have F233 := (f28.keep K232 nin0)
                have F234 := (f29.keep K232 nin0)
                have E235 := (((f18.exa.keep K27).keep K32).keep K205)
                refine callV0 (cells' := 8) (slots' := 19) (Wd := 0) (argsL := [(.ref a8)]) (rest := []) (pay_of (a0 := a0) (c_eqself l G a8 r17 x2 h204 O227 E228 E235 F233 F234) (wk G 29 rfl) (wk G 2 rfl) (by decide) (by decide)) E228 (wk G 25 rfl) (wk G 26 rfl) (wk G 28 rfl) (wk G 28 rfl) (wk G 27 rfl) (by decide) pd8 rfl rfl (by rw [hml]; rfl) (Nat.le_of_ble_eq_true rfl) rfl rfl (by decide) (by decide) all0 (fun _ _ => sf0) (hb hby at_258) (k_v (pc' := 261) rfl ?_)
                rintro _ h236 ⟨rfl, rfl⟩ K237
                refine go_ifF (pc' := 264) (hb hby at_261) rfl (by decide) ?_
                refine go_iconst (pc' := 265) (v := 1) (hb hby at_264) rfl rfl ?_
                refine go_goto (pc' := 269) (hb hby at_265) (by decide) rfl ?_
                have K238 : Keep h0 h7 [] := ((Keep.refl h0 []).ext X10)
                have K239 : Keep h0 h15 [] := (K238.trans K16 all0)
                have K240 : Keep h0 h26 [] := (K239.trans K27 (allS (Or.inr (Nat.le_of_eq g9)) all0))
                have K241 : Keep h0 h31 [] := (K240.trans K32 all0)
                have K242 : Keep h0 h204 [] := (K241.trans K205 all0)
                refine go_ireturn hret hlk rfl (by simp) (hb hby at_269) (by decide) (by decide) ⟨_, rfl, rfl⟩ K242
            · intro J208
              refine go_iload (pc' := 181) (hb hby at_179) rfl rfl ?_
              refine go_iload (pc' := 183) (hb hby at_181) rfl rfl ?_
              by_cases c243 : n1 = n2
              · refine go_icF (pc' := 186) (hb hby at_183) rfl (XT.ii_ne_f c243) ?_
                refine go_iload (pc' := 188) (hb hby at_186) rfl rfl ?_
                refine go_iconst (pc' := 189) (v := 1) (hb hby at_188) rfl rfl ?_
                by_cases c244 : n1 < (1 : Int32)
                · refine go_icT (pc' := 199) (hb hby at_189) (by decide) rfl (XT.ii_lt_t c244) ?_
                  refine go_iload (pc' := 201) (hb hby at_199) rfl rfl ?_
                  refine go_iconst (pc' := 202) (v := 2) (hb hby at_201) rfl rfl ?_
                  refine go_icT (pc' := 212) (hb hby at_202) (by decide) rfl (XT.ii_lt_t (lt12 c244)) ?_
                  refine go_iconst (pc' := 213) (v := 1) (hb hby at_212) rfl rfl ?_
                  refine go_goto (pc' := 217) (hb hby at_213) (by decide) rfl ?_
                  exact J208 (1 : Int32) (Or.inl ⟨rfl, sb1 q5 c243 (Or.inl c244) (Or.inl (lt12 c244))⟩)
                · refine go_icF (pc' := 192) (hb hby at_189) rfl (XT.ii_lt_f c244) ?_
                  refine go_iload (pc' := 194) (hb hby at_192) rfl rfl ?_
                  refine go_iload (pc' := 196) (hb hby at_194) rfl rfl ?_
                  by_cases c245 : (x0 &&& (255 : Int32)) = b0
                  · refine go_icF (pc' := 199) (hb hby at_196) rfl (XT.ii_ne_f c245) ?_
                    refine go_iload (pc' := 201) (hb hby at_199) rfl rfl ?_
                    refine go_iconst (pc' := 202) (v := 2) (hb hby at_201) rfl rfl ?_
                    by_cases c246 : n1 < (2 : Int32)
                    · refine go_icT (pc' := 212) (hb hby at_202) (by decide) rfl (XT.ii_lt_t c246) ?_
                      refine go_iconst (pc' := 213) (v := 1) (hb hby at_212) rfl rfl ?_
                      refine go_goto (pc' := 217) (hb hby at_213) (by decide) rfl ?_
                      exact J208 (1 : Int32) (Or.inl ⟨rfl, sb1 q5 c243 (Or.inr c245) (Or.inl c246)⟩)
                    · refine go_icF (pc' := 205) (hb hby at_202) rfl (XT.ii_lt_f c246) ?_
                      refine go_iload (pc' := 207) (hb hby at_205) rfl rfl ?_
                      refine go_iload (pc' := 209) (hb hby at_207) rfl rfl ?_
                      by_cases c247 : ((XT.ushr x0 (8 : Int32)) &&& (255 : Int32)) = b1
                      · refine go_icF (pc' := 212) (hb hby at_209) rfl (XT.ii_ne_f c247) ?_
                        refine go_iconst (pc' := 213) (v := 1) (hb hby at_212) rfl rfl ?_
                        refine go_goto (pc' := 217) (hb hby at_213) (by decide) rfl ?_
                        exact J208 (1 : Int32) (Or.inl ⟨rfl, sb1 q5 c243 (Or.inr c245) (Or.inr c247)⟩)
                      · refine go_icT (pc' := 216) (hb hby at_209) (by decide) rfl (XT.ii_ne_t c247) ?_
                        refine go_iconst (pc' := 217) (v := 0) (hb hby at_216) rfl rfl ?_
                        exact J208 (0 : Int32) (Or.inr ⟨rfl, sb0c q5 c243 c246 c247⟩)
                  · refine go_icT (pc' := 216) (hb hby at_196) (by decide) rfl (XT.ii_ne_t c245) ?_
                    refine go_iconst (pc' := 217) (v := 0) (hb hby at_216) rfl rfl ?_
                    exact J208 (0 : Int32) (Or.inr ⟨rfl, sb0b q5 c243 c244 c245⟩)
              · refine go_icT (pc' := 216) (hb hby at_183) (by decide) rfl (XT.ii_ne_t c243) ?_
                refine go_iconst (pc' := 217) (v := 0) (hb hby at_216) rfl rfl ?_
                exact J208 (0 : Int32) (Or.inr ⟨rfl, sb0a q5 q6 c243⟩)
    · intro J4
      refine go_iload (pc' := 76) (hb hby at_74) rfl rfl ?_
      refine go_iconst (pc' := 77) (v := 2) (hb hby at_76) rfl rfl ?_
      refine go_iand (pc' := 78) (z := (x5 &&& (2 : Int32))) (hb hby at_77) rfl rfl ?_
      by_cases c248 : (x5 &&& (2 : Int32)) = (0 : Int32)
      · refine go_ifT (pc' := 85) (hb hby at_78) (by decide) rfl (XT.i0_eq_t c248) ?_
        refine go_iload_n (pc' := 86) (hb hby at_85) rfl rfl ?_
        refine go_istore (pc' := 88) (ls' := #[.val (.int x0), .val (.int x1), .val (.int x2), .val (.int x3), .val (.int x4), .val (.int x5), .val (.int (x0 &&& (255 : Int32))), .val (.int ((XT.ushr x0 (8 : Int32)) &&& (255 : Int32))), .val (.int b0), .val (.int b1), .val (.int ((x4 &&& (3 : Int32)) % (3 : Int32))), .val (.int (((XT.ushr x4 (2 : Int32)) &&& (3 : Int32)) % (3 : Int32))), .val (.int x3), .unset, .unset, .unset, .unset, .unset, .unset]) (hb hby at_86) rfl rfl ?_
        exact J4 (((x4 &&& (3 : Int32)) % (3 : Int32)), (((XT.ushr x4 (2 : Int32)) &&& (3 : Int32)) % (3 : Int32)), x3) ⟨(rem3 _ (and_nn _ _ (by decide))), (rem3 _ (and_nn _ _ (by decide)))⟩
      · refine go_ifF (pc' := 81) (hb hby at_78) rfl (XT.i0_eq_f c248) ?_
        refine go_iload_n (pc' := 82) (hb hby at_81) rfl rfl ?_
        refine go_goto (pc' := 86) (hb hby at_82) (by decide) rfl ?_
        refine go_istore (pc' := 88) (ls' := #[.val (.int x0), .val (.int x1), .val (.int x2), .val (.int x3), .val (.int x4), .val (.int x5), .val (.int (x0 &&& (255 : Int32))), .val (.int ((XT.ushr x0 (8 : Int32)) &&& (255 : Int32))), .val (.int b0), .val (.int b1), .val (.int ((x4 &&& (3 : Int32)) % (3 : Int32))), .val (.int (((XT.ushr x4 (2 : Int32)) &&& (3 : Int32)) % (3 : Int32))), .val (.int x2), .unset, .unset, .unset, .unset, .unset, .unset]) (hb hby at_86) rfl rfl ?_
        exact J4 (((x4 &&& (3 : Int32)) % (3 : Int32)), (((XT.ushr x4 (2 : Int32)) &&& (3 : Int32)) % (3 : Int32)), x2) ⟨(rem3 _ (and_nn _ _ (by decide))), (rem3 _ (and_nn _ _ (by decide)))⟩
  · intro J1
    refine go_iload (pc' := 21) (hb hby at_19) rfl rfl ?_
    refine go_iconst (pc' := 22) (v := 1) (hb hby at_21) rfl rfl ?_
    refine go_iand (pc' := 23) (z := (x5 &&& (1 : Int32))) (hb hby at_22) rfl rfl ?_
    by_cases c249 : (x5 &&& (1 : Int32)) = (0 : Int32)
    · refine go_ifT (pc' := 37) (hb hby at_23) (by decide) rfl (XT.i0_eq_t c249) ?_
      refine go_iload_n (pc' := 38) (hb hby at_37) rfl rfl ?_
      refine go_sipush (pc' := 41) (v := 255) (hb hby at_38) rfl rfl ?_
      refine go_iand (pc' := 42) (z := (x1 &&& (255 : Int32))) (hb hby at_41) rfl rfl ?_
      refine go_i2c (pc' := 43) (z := (x1 &&& (255 : Int32))) (hb hby at_42) rfl (i2c_mask _) ?_
      refine go_istore (pc' := 45) (ls' := #[.val (.int x0), .val (.int x1), .val (.int x2), .val (.int x3), .val (.int x4), .val (.int x5), .val (.int (x0 &&& (255 : Int32))), .val (.int ((XT.ushr x0 (8 : Int32)) &&& (255 : Int32))), .val (.int (x1 &&& (255 : Int32))), .unset, .unset, .unset, .unset, .unset, .unset, .unset, .unset, .unset, .unset]) (hb hby at_43) rfl rfl ?_
      refine go_iload_n (pc' := 46) (hb hby at_45) rfl rfl ?_
      refine go_bipush (pc' := 48) (v := 8) (hb hby at_46) rfl rfl ?_
      refine go_iushr (pc' := 49) (z := (XT.ushr x1 (8 : Int32))) (hb hby at_48) rfl rfl ?_
      refine go_sipush (pc' := 52) (v := 255) (hb hby at_49) rfl rfl ?_
      refine go_iand (pc' := 53) (z := ((XT.ushr x1 (8 : Int32)) &&& (255 : Int32))) (hb hby at_52) rfl rfl ?_
      refine go_i2c (pc' := 54) (z := ((XT.ushr x1 (8 : Int32)) &&& (255 : Int32))) (hb hby at_53) rfl (i2c_mask _) ?_
      refine go_istore (pc' := 56) (ls' := #[.val (.int x0), .val (.int x1), .val (.int x2), .val (.int x3), .val (.int x4), .val (.int x5), .val (.int (x0 &&& (255 : Int32))), .val (.int ((XT.ushr x0 (8 : Int32)) &&& (255 : Int32))), .val (.int (x1 &&& (255 : Int32))), .val (.int ((XT.ushr x1 (8 : Int32)) &&& (255 : Int32))), .unset, .unset, .unset, .unset, .unset, .unset, .unset, .unset, .unset]) (hb hby at_54) rfl rfl ?_
      exact J1 ((x1 &&& (255 : Int32)), ((XT.ushr x1 (8 : Int32)) &&& (255 : Int32))) ⟨(c8_m _), (c8_m _)⟩
    · refine go_ifF (pc' := 26) (hb hby at_23) rfl (XT.i0_eq_f c249) ?_
      refine go_iload (pc' := 28) (hb hby at_26) rfl rfl ?_
      refine go_istore (pc' := 30) (ls' := #[.val (.int x0), .val (.int x1), .val (.int x2), .val (.int x3), .val (.int x4), .val (.int x5), .val (.int (x0 &&& (255 : Int32))), .val (.int ((XT.ushr x0 (8 : Int32)) &&& (255 : Int32))), .val (.int (x0 &&& (255 : Int32))), .unset, .unset, .unset, .unset, .unset, .unset, .unset, .unset, .unset, .unset]) (hb hby at_28) rfl rfl ?_
      refine go_iload (pc' := 32) (hb hby at_30) rfl rfl ?_
      refine go_istore (pc' := 34) (ls' := #[.val (.int x0), .val (.int x1), .val (.int x2), .val (.int x3), .val (.int x4), .val (.int x5), .val (.int (x0 &&& (255 : Int32))), .val (.int ((XT.ushr x0 (8 : Int32)) &&& (255 : Int32))), .val (.int (x0 &&& (255 : Int32))), .val (.int ((XT.ushr x0 (8 : Int32)) &&& (255 : Int32))), .unset, .unset, .unset, .unset, .unset, .unset, .unset, .unset, .unset]) (hb hby at_32) rfl rfl ?_
      refine go_goto (pc' := 56) (hb hby at_34) (by decide) rfl ?_
      exact J1 ((x0 &&& (255 : Int32)), ((XT.ushr x0 (8 : Int32)) &&& (255 : Int32))) ⟨(c8_m _), (c8_m _)⟩
set_option maxRecDepth 65536 in
set_option maxHeartbeats 40000000 in
theorem comes_1 {Post : Tables → Env → Array Value → State → Outcome → State → Prop} (hpost : ∀ tb e args s v u, (limb_1_1.after args s (.returned v) u = true ∧ limb_1_2.after args s (.returned v) u = true ∧ True) → ReturnedEndW s (.returned v) u (Jvm.fieldLocs frame_1_writes args s ++ Jvm.arrayLocs frame_1_arrays args s ++ Jvm.staticLocs frame_1_statics s) 32 1152 → Post tb e args s (.returned v) u) :
    ArmFor flags0 classFile x code maxLocals ret World_1 tables_1 room_1 Calls_1 rest_1 Pre_1 Post := by
  intro l hfl _ _ p e ha hc hk s m args below hf hA hF happ hP
  obtain ⟨hcalls, hrest, hpre⟩ := hP
  obtain ⟨-, -, -, hnamed, -, -, -, hat⟩ := (Spec.applies_iff hf).mp happ
  obtain ⟨hg, hn⟩ := and_e (Cond.before_iff.mp (show (Jvm.Cond.and given_1 narrow_1).before args s = true from hpre))
  obtain ⟨h1, h2⟩ := and_e hg
  obtain ⟨w0, w1, w2, w3, w4, w5, rfl⟩ : ∃ w0 w1 w2 w3 w4 w5 : Value, args = #[w0, w1, w2, w3, w4, w5] := by
    have hs : args.size = 6 := by simpa [Cond.value, given_1] using h1
    obtain ⟨L⟩ := args
    match L, hs with
    | [w0, w1, w2, w3, w4, w5], _ => exact ⟨w0, w1, w2, w3, w4, w5, rfl⟩
  have hw := fun d (hd : d ∈ tables_1) => atoms_spec (ws := Jvm.Cond.code x code maxLocals ret :: tables_1) hat d (List.mem_cons_of_mem _ hd)
  obtain ⟨hsets, hown0⟩ := atoms_of _ (rest_1_c_eq ▸ (show rest_1_c.before _ s = true from hrest))
  have hfit : Fit s := fun {y c} hc i hi => by
    obtain ⟨ha, rfl⟩ := Array.getElem?_eq_some_iff.mp hc
    have q := List.all_eq_true.mp ((Array.all_eq_true_iff_forall_mem.mp hF) _ (Array.getElem_mem ha)) i (List.mem_range.mpr hi)
    simpa [Array.getElem?_eq_getElem hi] using q
  obtain ⟨q0, h2⟩ := and_e h2
  obtain ⟨i0, e0⟩ := is_v q0
  obtain rfl : w0 = (.int i0) := Option.some.inj e0
  obtain ⟨q1, h2⟩ := and_e h2
  obtain ⟨i1, e1⟩ := is_v q1
  obtain rfl : w1 = (.int i1) := Option.some.inj e1
  obtain ⟨q2, h2⟩ := and_e h2
  obtain ⟨i2, e2⟩ := is_v q2
  obtain rfl : w2 = (.int i2) := Option.some.inj e2
  obtain ⟨q3, h2⟩ := and_e h2
  obtain ⟨i3, e3⟩ := is_v q3
  obtain rfl : w3 = (.int i3) := Option.some.inj e3
  obtain ⟨q4, h2⟩ := and_e h2
  obtain ⟨i4, e4⟩ := is_v q4
  obtain rfl : w4 = (.int i4) := Option.some.inj e4
  have q5 := h2
  obtain ⟨i5, e5⟩ := is_v q5
  obtain rfl : w5 = (.int i5) := Option.some.inj e5
  have hew : EW s #[(.int i0), (.int i1), (.int i2), (.int i3), (.int i4), (.int i5)] EL1 := (EW.cons (hw _ (List.mem_of_getElem? (i := 7) rfl)) (by decide) EW.nil)
  have G : GH s #[(.int i0), (.int i1), (.int i2), (.int i3), (.int i4), (.int i5)] := ⟨hw, hsets, hew, hn, hfit⟩
  obtain ⟨n, o, h1, h2, h3, v, L, rfl, ⟨⟨_, rfl, hv⟩, N, -⟩, hC, -⟩ := c_law l G i0 i1 i2 i3 i4 i5 s.heap (Old.start s) p e ha hc hk s m _ below hf ((Spec.applies_iff_loose hf).mp happ).1 ⟨rfl, State.Warmed39.refl s, rfl, (fun _ => CHv.start (a0 := _) hew (fun q hq => held_of (hcalls.1 q hq)) (hsets _ (List.mem_of_getElem? (i := 2) rfl)) (hw _ (List.mem_of_getElem? (i := 10) rfl)) (hw _ (List.mem_of_getElem? (i := 9) rfl)))⟩ trivial
  subst hv
  have hq := (hC rfl).2
  refine ⟨n, _, h1, h2, h3, hpost _ _ _ _ _ _ ⟨Cond.after_iff.mpr rfl, Cond.after_iff.mpr (eq_i res_at (Term.int_eval (1)) rfl), trivial⟩ ⟨hq.1, hq.2.1, hq.2.2.1, (hq.2.2.2.sift fun y hy => Or.inr (N y hy)).mono (by decide) (by decide)⟩⟩
theorem main_1_1 : Claimed_1_1 := comes_1 fun _ _ _ _ _ _ h hF => ⟨h.1, hF⟩
theorem main_1_2 : Claimed_1_2 := comes_1 fun _ _ _ _ _ _ h hF => ⟨h.2.1, hF⟩
end Jvm.Pilot.@@N@@
namespace Jvm.Pilot.@@N@@
open Jvm Jvm.ClassFile Sem Op Lib Jvm.Free Jvm.Stand Jvm.Pilot.@@N@@.Jvm.D
/-! MADE BY PROGRAM (witnessworld.py) out of the Statement's table words and the real class files: 24 classes; the members and pool entries that the words name. The judged class is class 1, her method 2. -/
namespace start1
open Jvm.ClassFile
def u (s : String) : CpInfo := .utf8 (stringToUtf16 s)
/-- a pool by its gaps: so many unusable entries, then the entry; so many at the end -/
def gap : Nat → List CpInfo → List CpInfo
  | 0, r => r
  | n + 1, r => .unusable :: gap n r
def poolList (es : List (Nat × CpInfo)) (last : Nat) : List CpInfo := es.foldr (fun e r => gap e.1 (e.2 :: r)) (gap last [])
def pool (es : List (Nat × CpInfo)) (last : Nat) : Array CpInfo := ⟨poolList es last⟩
def fileOf (pool : Array CpInfo) (this : Nat) (attrs : Array Attribute := #[]) (ms : Array MethodInfo := #[]) (fl : Nat := 33) (sup : Nat := 0) (ifs : Array Nat := #[]) (fds : Array FieldInfo := #[]) : ClassFile where
  minorVersion := 0
  majorVersion := 65
  constantPool := pool
  accessFlags := fl
  thisClass := this
  superClass := sup
  interfaces := ifs
  fields := fds
  methods := ms
  attributes := attrs
def plain (name : String) (sup : Option ClassId) : Class where
  name := name
  kind := .ordinary
  loader := none
  accessFlags := 33
  super := sup
  interfaces := #[]
  cf := none
  fields := #[]
  methods := #[]
  instanceTypes := #[]
  staticTypes := #[]
  resolved := #[]
  callSites := []
  init := .initialized
  statics := none
  mirror := none

def pool0 : Array CpInfo := pool [(5, u "<init>"), (0, u "()V"), (1, .class_ 10), (1, u "java/lang/Object")] 113

def k0c0 : Code := { maxStack := 0, maxLocals := 1, code := object_method_1_code, exceptionTable := #[], attributes := #[] }
def k0m0 : Method := { name := "<init>", desc := "()V", sig := { parameters := [], returnType := none }, accessFlags := 1, code := some k0c0 }
/-- java/lang/Object -/
def k0 : Class := { plain "java/lang/Object" none with
  accessFlags := 33
  interfaces := #[]
  cf := some (fileOf pool0 8 #[] #[{ accessFlags := 1, nameIndex := 5, descriptorIndex := 6, attributes := #[] }] 33 0 #[] #[])
  fields := #[]
  methods := #[k0m0]
  instanceTypes := #[]
  staticTypes := #[]
  resolved := Array.replicate 124 none
  statics := none }

def pool1 : Array CpInfo := pool [(2, .class_ 4), (1, u "java/lang/Object"), (0, u "<init>"), (0, u "()V"), (0, .string 8), (0, u ""), (0, .methodref 10 11), (0, .class_ 12), (0, .nameAndType 13 14), (0, u "java/lang/String"), (0, u "valueOf"), (0, u "(C)Ljava/lang/String;"), (0, .methodref 10 16), (0, .nameAndType 5 17), (0, u "([C)V"), (0, .class_ 19), (0, u "com/example/onceward/onceward/HostPort"), (0, .methodref 21 22), (0, .class_ 23), (0, .nameAndType 24 25), (0, u "com/example/onceward/onceward/HostPortEqualsPinLaw"), (0, u "text"), (0, u "(ICC)Ljava/lang/String;"), (0, .methodref 18 27), (0, .nameAndType 5 28), (0, u "(Ljava/lang/String;I)V"), (0, .methodref 30 31), (0, .class_ 32), (0, .nameAndType 13 33), (0, u "java/lang/Integer"), (0, u "(I)Ljava/lang/Integer;"), (0, .methodref 18 35), (0, .nameAndType 36 37), (0, u "equals"), (0, u "(Ljava/lang/Object;)Z"), (3, u "law"), (0, u "(IIIIII)Z")] 2

def k1m0 : Method := { name := "<init>", desc := "()V", sig := { parameters := [], returnType := none }, accessFlags := 1, code := none }
def k1c1 : Code := { maxStack := 3, maxLocals := 4, code := method_2_code, exceptionTable := #[], attributes := #[] }
def k1m1 : Method := { name := "text", desc := "(ICC)Ljava/lang/String;", sig := { parameters := [.int, .char, .char], returnType := some (.object "java/lang/String") }, accessFlags := 10, code := some k1c1 }
def k1c2 : Code := { maxStack := 5, maxLocals := 19, code := code, exceptionTable := #[], attributes := #[] }
def k1m2 : Method := { name := "law", desc := "(IIIIII)Z", sig := { parameters := [.int, .int, .int, .int, .int, .int], returnType := some .boolean }, accessFlags := 9, code := some k1c2 }
/-- com/example/onceward/onceward/HostPortEqualsPinLaw -/
def k1 : Class := { plain "com/example/onceward/onceward/HostPortEqualsPinLaw" (some 0) with
  accessFlags := 49
  interfaces := #[]
  cf := some (fileOf pool1 21 #[] #[{ accessFlags := 1, nameIndex := 5, descriptorIndex := 6, attributes := #[] }, { accessFlags := 10, nameIndex := 24, descriptorIndex := 25, attributes := #[] }, { accessFlags := 9, nameIndex := 41, descriptorIndex := 42, attributes := #[] }] 49 2 #[] #[])
  fields := #[]
  methods := #[k1m0, k1m1, k1m2]
  instanceTypes := #[]
  staticTypes := #[]
  resolved := Array.replicate 45 none
  statics := none }

def pool2 : Array CpInfo := pool [(1, .methodref 2 3), (0, .class_ 4), (0, .nameAndType 5 6), (0, u "java/lang/Object"), (0, u "<init>"), (0, u "()V"), (0, .fieldref 8 9), (0, .class_ 10), (0, .nameAndType 11 12), (0, u "com/example/onceward/onceward/HostPort"), (0, u "host"), (0, u "Ljava/lang/String;"), (0, .fieldref 8 14), (0, .nameAndType 15 16), (0, u "port"), (0, u "I"), (1, .class_ 20), (1, u "java/lang/String"), (46, u "(Ljava/lang/String;I)V"), (0, .methodref 18 69), (0, .nameAndType 70 71), (0, u "equals"), (0, u "(Ljava/lang/Object;)Z")] 48

def k2c0 : Code := { maxStack := 2, maxLocals := 3, code := prog_9_method_1_code, exceptionTable := #[], attributes := #[] }
def k2m0 : Method := { name := "<init>", desc := "(Ljava/lang/String;I)V", sig := { parameters := [(.object "java/lang/String"), .int], returnType := none }, accessFlags := 0, code := some k2c0 }
def k2c1 : Code := { maxStack := 2, maxLocals := 2, code := prog_9_method_5_code, exceptionTable := #[], attributes := #[] }
def k2m1 : Method := { name := "equals", desc := "(Ljava/lang/Object;)Z", sig := { parameters := [(.object "java/lang/Object")], returnType := some .boolean }, accessFlags := 1, code := some k2c1 }
/-- com/example/onceward/onceward/HostPort -/
def k2 : Class := { plain "com/example/onceward/onceward/HostPort" (some 0) with
  accessFlags := 48
  interfaces := #[]
  cf := some (fileOf pool2 8 #[] #[{ accessFlags := 0, nameIndex := 5, descriptorIndex := 67, attributes := #[] }, { accessFlags := 1, nameIndex := 70, descriptorIndex := 71, attributes := #[] }] 48 2 #[] #[{ accessFlags := 18, nameIndex := 11, descriptorIndex := 12, attributes := #[] }, { accessFlags := 18, nameIndex := 15, descriptorIndex := 16, attributes := #[] }])
  fields := #[{ name := "host", type := (.object "java/lang/String"), accessFlags := 18, slot := 0, constantValue := 0 }, { name := "port", type := .int, accessFlags := 18, slot := 1, constantValue := 0 }]
  methods := #[k2m0, k2m1]
  instanceTypes := #[(.object "java/lang/String"), .int]
  staticTypes := #[]
  resolved := Array.replicate 120 none
  statics := none }

def pool3 : Array CpInfo := pool [(1, .class_ 2), (0, u "java/io/Serializable"), (0, .class_ 4), (0, u "java/lang/Object")] 2

/-- java/io/Serializable -/
def k3 : Class := { plain "java/io/Serializable" (some 0) with
  accessFlags := 1537
  interfaces := #[]
  cf := some (fileOf pool3 1 #[] #[] 1537 3 #[] #[])
  fields := #[]
  methods := #[]
  instanceTypes := #[]
  staticTypes := #[]
  resolved := Array.replicate 7 none
  statics := none }

def pool4 : Array CpInfo := pool [(1, .class_ 2), (0, u "java/lang/Comparable"), (0, .class_ 4), (0, u "java/lang/Object")] 7

/-- java/lang/Comparable -/
def k4 : Class := { plain "java/lang/Comparable" (some 0) with
  accessFlags := 1537
  interfaces := #[]
  cf := some (fileOf pool4 1 #[] #[] 1537 3 #[] #[])
  fields := #[]
  methods := #[]
  instanceTypes := #[]
  staticTypes := #[]
  resolved := Array.replicate 12 none
  statics := none }

def pool5 : Array CpInfo := pool [(2, .class_ 4), (1, u "java/lang/CharSequence"), (42, .class_ 48), (0, u "java/lang/CharSequence$1CodePointIterator"), (10, .class_ 60), (0, u "java/lang/CharSequence$1CharIterator"), (5, .class_ 67), (0, u "java/lang/Object")] 63

/-- java/lang/CharSequence -/
def k5 : Class := { plain "java/lang/CharSequence" (some 0) with
  accessFlags := 1537
  interfaces := #[]
  cf := some (fileOf pool5 2 #[.nestMembers #[47, 59]] #[] 1537 66 #[] #[])
  fields := #[]
  methods := #[]
  instanceTypes := #[]
  staticTypes := #[]
  resolved := Array.replicate 131 none
  statics := none }

def pool6 : Array CpInfo := pool [(1, .class_ 2), (0, u "java/lang/constant/Constable"), (0, .class_ 4), (0, u "java/lang/Object")] 6

/-- java/lang/constant/Constable -/
def k6 : Class := { plain "java/lang/constant/Constable" (some 0) with
  accessFlags := 1537
  interfaces := #[]
  cf := some (fileOf pool6 1 #[] #[] 1537 3 #[] #[])
  fields := #[]
  methods := #[]
  instanceTypes := #[]
  staticTypes := #[]
  resolved := Array.replicate 11 none
  statics := none }

def pool7 : Array CpInfo := pool [(1, .class_ 2), (0, u "java/lang/constant/ConstantDesc"), (0, .class_ 4), (0, u "java/lang/Object")] 32

/-- java/lang/constant/ConstantDesc -/
def k7 : Class := { plain "java/lang/constant/ConstantDesc" (some 0) with
  accessFlags := 1537
  interfaces := #[]
  cf := some (fileOf pool7 1 #[] #[] 1537 3 #[] #[])
  fields := #[]
  methods := #[]
  instanceTypes := #[]
  staticTypes := #[]
  resolved := Array.replicate 37 none
  statics := none }

def pool8 : Array CpInfo := pool [(1, .methodref 2 3), (0, .class_ 4), (0, .nameAndType 5 6), (0, u "java/lang/Object"), (0, u "<init>"), (0, u "()V"), (2, .fieldref 10 11), (0, .class_ 12), (0, .nameAndType 13 14), (0, u "java/lang/String"), (0, u "value"), (0, u "[B"), (0, .fieldref 10 16), (0, .nameAndType 17 18), (0, u "coder"), (0, u "B"), (2, u "hash"), (0, u "I"), (2, u "hashIsZero"), (0, u "Z"), (0, .methodref 10 28), (0, .nameAndType 5 29), (0, u "([CIILjava/lang/Void;)V"), (8, .fieldref 10 39), (0, .nameAndType 40 26), (0, u "COMPACT_STRINGS"), (1, .class_ 44), (1, u "java/lang/StringUTF16"), (0, u "compress"), (1, .methodref 42 48), (0, .nameAndType 49 50), (0, u "coderFromArrayLen"), (0, u "([BI)B"), (2, u "toBytes"), (53, .class_ 109), (1, u "java/lang/StringLatin1"), (67, .methodref 42 178), (0, .nameAndType 45 179), (0, u "([CII)[B"), (29, .methodref 10 210), (0, .nameAndType 5 211), (0, u "([BB)V"), (157, u "(C)Z"), (171, .methodref 107 542), (0, .nameAndType 543 544), (0, u "equals"), (0, u "([B[B)Z"), (28, u "(Ljava/lang/Object;)Z"), (1, .class_ 576), (0, u "java/lang/CharSequence"), (22, u "CASE_INSENSITIVE_ORDER"), (0, u "Ljava/util/Comparator;"), (181, u "valueOf"), (0, u "(C)Ljava/lang/String;"), (226, u "([C)V"), (4, .methodref 107 1016), (0, .nameAndType 1017 369), (0, u "canEncode"), (0, .methodref 107 1019), (0, .nameAndType 53 1020), (0, u "(C)[B"), (80, u "serialPersistentFields"), (0, u "[Ljava/io/ObjectStreamField;"), (0, .class_ 1104), (0, u "java/lang/String$CaseInsensitiveComparator"), (1, .class_ 1107), (0, u "java/io/Serializable"), (0, .class_ 1109), (0, u "java/lang/Comparable"), (0, .class_ 1111), (0, u "java/lang/constant/Constable"), (0, .class_ 1113), (0, u "java/lang/constant/ConstantDesc"), (2, u "serialVersionUID"), (0, u "J"), (3, u "REPL"), (0, u "C"), (2, u "LATIN1"), (1, u "UTF16")] 323

def k8m0 : Method := { name := "<init>", desc := "()V", sig := { parameters := [], returnType := none }, accessFlags := 1, code := none }
def k8c1 : Code := { maxStack := 5, maxLocals := 2, code := jdk_42_method_3_code, exceptionTable := #[], attributes := #[] }
def k8m1 : Method := { name := "<init>", desc := "([C)V", sig := { parameters := [(.array .char)], returnType := none }, accessFlags := 1, code := some k8c1 }
def k8c2 : Code := { maxStack := 2, maxLocals := 3, code := jdk_42_method_66_code, exceptionTable := #[], attributes := #[] }
def k8m2 : Method := { name := "equals", desc := "(Ljava/lang/Object;)Z", sig := { parameters := [(.object "java/lang/Object")], returnType := some .boolean }, accessFlags := 1, code := some k8c2 }
def k8c3 : Code := { maxStack := 4, maxLocals := 1, code := jdk_42_method_139_code, exceptionTable := #[], attributes := #[] }
def k8m3 : Method := { name := "valueOf", desc := "(C)Ljava/lang/String;", sig := { parameters := [.char], returnType := some (.object "java/lang/String") }, accessFlags := 9, code := some k8c3 }
def k8c4 : Code := { maxStack := 4, maxLocals := 6, code := jdk_42_method_149_code, exceptionTable := #[], attributes := #[] }
def k8m4 : Method := { name := "<init>", desc := "([CIILjava/lang/Void;)V", sig := { parameters := [(.array .char), .int, .int, (.object "java/lang/Void")], returnType := none }, accessFlags := 2, code := some k8c4 }
def k8c5 : Code := { maxStack := 2, maxLocals := 3, code := jdk_42_method_151_code, exceptionTable := #[], attributes := #[] }
def k8m5 : Method := { name := "<init>", desc := "([BB)V", sig := { parameters := [(.array .byte), .byte], returnType := none }, accessFlags := 0, code := some k8c5 }
/-- java/lang/String -/
def k8 : Class := { plain "java/lang/String" (some 0) with
  accessFlags := 49
  interfaces := #[3, 4, 5, 6, 7]
  cf := some (fileOf pool8 10 #[.nestMembers #[1103]] #[{ accessFlags := 1, nameIndex := 5, descriptorIndex := 6, attributes := #[] }, { accessFlags := 1, nameIndex := 5, descriptorIndex := 1010, attributes := #[] }, { accessFlags := 1, nameIndex := 543, descriptorIndex := 573, attributes := #[] }, { accessFlags := 9, nameIndex := 782, descriptorIndex := 783, attributes := #[] }, { accessFlags := 2, nameIndex := 5, descriptorIndex := 29, attributes := #[] }, { accessFlags := 0, nameIndex := 5, descriptorIndex := 211, attributes := #[] }] 49 2 #[1106, 1108, 575, 1110, 1112] #[{ accessFlags := 18, nameIndex := 13, descriptorIndex := 14, attributes := #[] }, { accessFlags := 18, nameIndex := 17, descriptorIndex := 18, attributes := #[] }, { accessFlags := 2, nameIndex := 21, descriptorIndex := 22, attributes := #[] }, { accessFlags := 2, nameIndex := 25, descriptorIndex := 26, attributes := #[] }, { accessFlags := 26, nameIndex := 1116, descriptorIndex := 1117, attributes := #[] }, { accessFlags := 24, nameIndex := 40, descriptorIndex := 26, attributes := #[] }, { accessFlags := 26, nameIndex := 1101, descriptorIndex := 1102, attributes := #[] }, { accessFlags := 26, nameIndex := 1121, descriptorIndex := 1122, attributes := #[] }, { accessFlags := 25, nameIndex := 599, descriptorIndex := 600, attributes := #[] }, { accessFlags := 24, nameIndex := 1125, descriptorIndex := 18, attributes := #[] }, { accessFlags := 24, nameIndex := 1127, descriptorIndex := 18, attributes := #[] }])
  fields := #[{ name := "value", type := (.array .byte), accessFlags := 18, slot := 0, constantValue := 0 }, { name := "coder", type := .byte, accessFlags := 18, slot := 1, constantValue := 0 }, { name := "hash", type := .int, accessFlags := 2, slot := 2, constantValue := 0 }, { name := "hashIsZero", type := .boolean, accessFlags := 2, slot := 3, constantValue := 0 }, { name := "serialVersionUID", type := .long, accessFlags := 26, slot := 0, constantValue := 0 }, { name := "COMPACT_STRINGS", type := .boolean, accessFlags := 24, slot := 1, constantValue := 0 }, { name := "serialPersistentFields", type := (.array (.object "java/io/ObjectStreamField")), accessFlags := 26, slot := 2, constantValue := 0 }, { name := "REPL", type := .char, accessFlags := 26, slot := 3, constantValue := 0 }, { name := "CASE_INSENSITIVE_ORDER", type := (.object "java/util/Comparator"), accessFlags := 25, slot := 4, constantValue := 0 }, { name := "LATIN1", type := .byte, accessFlags := 24, slot := 5, constantValue := 0 }, { name := "UTF16", type := .byte, accessFlags := 24, slot := 6, constantValue := 0 }]
  methods := #[k8m0, k8m1, k8m2, k8m3, k8m4, k8m5]
  instanceTypes := #[(.array .byte), .byte, .int, .boolean]
  staticTypes := #[.long, .boolean, (.array (.object "java/io/ObjectStreamField")), .char, (.object "java/util/Comparator"), .byte, .byte]
  resolved := Array.replicate 1451 none
  statics := some 0 }

def pool9 : Array CpInfo := pool [(6, .class_ 8), (1, u "java/lang/Object"), (0, u "<init>"), (0, u "()V"), (1, .class_ 14), (1, u "java/lang/StringUTF16"), (31, u "$assertionsDisabled"), (0, u "Z"), (13, u "HI_BYTE_SHIFT"), (0, u "I"), (2, u "LO_BYTE_SHIFT"), (49, .methodref 12 116), (0, .nameAndType 117 118), (0, u "compress"), (0, u "([CI[BII)I"), (3, u "([CII)[B"), (138, u "coderFromArrayLen"), (0, u "([BI)B"), (106, .class_ 371), (1, u "java/lang/StringUTF16$LinesSpliterator"), (58, u "MAX_LENGTH"), (196, .class_ 628), (0, u "java/lang/StringUTF16$CodePointsSpliterator"), (0, .class_ 630), (0, u "java/lang/StringUTF16$CharsSpliterator")] 4

def k9m0 : Method := { name := "<init>", desc := "()V", sig := { parameters := [], returnType := none }, accessFlags := 0, code := none }
def k9c1 : Code := { maxStack := 2, maxLocals := 2, code := jdk_52_method_15_code, exceptionTable := #[], attributes := #[] }
def k9m1 : Method := { name := "coderFromArrayLen", desc := "([BI)B", sig := { parameters := [(.array .byte), .int], returnType := some .byte }, accessFlags := 8, code := some k9c1 }
def k9c2 : Code := { maxStack := 5, maxLocals := 6, code := jdk_52_method_16_code, exceptionTable := #[], attributes := #[] }
def k9m2 : Method := { name := "compress", desc := "([CII)[B", sig := { parameters := [(.array .char), .int, .int], returnType := some (.array .byte) }, accessFlags := 9, code := some k9c2 }
def k9c3 : Code := { maxStack := 3, maxLocals := 7, code := jdk_52_method_21_code, exceptionTable := #[], attributes := #[] }
def k9m3 : Method := { name := "compress", desc := "([CI[BII)I", sig := { parameters := [(.array .char), .int, (.array .byte), .int, .int], returnType := some .int }, accessFlags := 9, code := some k9c3 }
/-- java/lang/StringUTF16 -/
def k9 : Class := { plain "java/lang/StringUTF16" (some 0) with
  accessFlags := 48
  interfaces := #[]
  cf := some (fileOf pool9 12 #[.nestMembers #[627, 629, 369]] #[{ accessFlags := 0, nameIndex := 9, descriptorIndex := 10, attributes := #[] }, { accessFlags := 8, nameIndex := 261, descriptorIndex := 262, attributes := #[] }, { accessFlags := 9, nameIndex := 117, descriptorIndex := 122, attributes := #[] }, { accessFlags := 9, nameIndex := 117, descriptorIndex := 118, attributes := #[] }] 48 6 #[] #[{ accessFlags := 26, nameIndex := 61, descriptorIndex := 62, attributes := #[] }, { accessFlags := 26, nameIndex := 65, descriptorIndex := 62, attributes := #[] }, { accessFlags := 24, nameIndex := 430, descriptorIndex := 62, attributes := #[] }, { accessFlags := 4120, nameIndex := 46, descriptorIndex := 47, attributes := #[] }])
  fields := #[{ name := "HI_BYTE_SHIFT", type := .int, accessFlags := 26, slot := 0, constantValue := 0 }, { name := "LO_BYTE_SHIFT", type := .int, accessFlags := 26, slot := 1, constantValue := 0 }, { name := "MAX_LENGTH", type := .int, accessFlags := 24, slot := 2, constantValue := 0 }, { name := "$assertionsDisabled", type := .boolean, accessFlags := 4120, slot := 3, constantValue := 0 }]
  methods := #[k9m0, k9m1, k9m2, k9m3]
  instanceTypes := #[]
  staticTypes := #[.int, .int, .int, .boolean]
  resolved := Array.replicate 635 none
  statics := none }

def pool10 : Array CpInfo := pool [(4, .class_ 6), (1, u "java/lang/Object"), (0, u "<init>"), (0, u "()V"), (5, .class_ 16), (1, u "java/lang/StringLatin1"), (73, u "canEncode"), (14, u "(C)Z"), (15, u "$assertionsDisabled"), (0, u "Z"), (98, .class_ 223), (1, u "java/lang/StringLatin1$LinesSpliterator"), (57, u "equals"), (0, u "([B[B)Z"), (97, u "toBytes"), (1, u "(C)[B"), (7, .class_ 391), (0, u "java/lang/StringLatin1$CharsSpliterator")] 3

def k10m0 : Method := { name := "<init>", desc := "()V", sig := { parameters := [], returnType := none }, accessFlags := 0, code := none }
def k10c1 : Code := { maxStack := 2, maxLocals := 1, code := jdk_43_method_3_code, exceptionTable := #[], attributes := #[] }
def k10m1 : Method := { name := "canEncode", desc := "(C)Z", sig := { parameters := [.char], returnType := some .boolean }, accessFlags := 9, code := some k10c1 }
def k10c2 : Code := { maxStack := 3, maxLocals := 3, code := jdk_43_method_13_code, exceptionTable := #[], attributes := #[] }
def k10m2 : Method := { name := "equals", desc := "([B[B)Z", sig := { parameters := [(.array .byte), (.array .byte)], returnType := some .boolean }, accessFlags := 9, code := some k10c2 }
def k10c3 : Code := { maxStack := 4, maxLocals := 1, code := jdk_43_method_46_code, exceptionTable := #[], attributes := #[] }
def k10m3 : Method := { name := "toBytes", desc := "(C)[B", sig := { parameters := [.char], returnType := some (.array .byte) }, accessFlags := 9, code := some k10c3 }
/-- java/lang/StringLatin1 -/
def k10 : Class := { plain "java/lang/StringLatin1" (some 0) with
  accessFlags := 48
  interfaces := #[]
  cf := some (fileOf pool10 14 #[.nestMembers #[390, 221]] #[{ accessFlags := 0, nameIndex := 7, descriptorIndex := 8, attributes := #[] }, { accessFlags := 9, nameIndex := 90, descriptorIndex := 105, attributes := #[] }, { accessFlags := 9, nameIndex := 281, descriptorIndex := 282, attributes := #[] }, { accessFlags := 9, nameIndex := 380, descriptorIndex := 382, attributes := #[] }] 48 4 #[] #[{ accessFlags := 4120, nameIndex := 121, descriptorIndex := 122, attributes := #[] }])
  fields := #[{ name := "$assertionsDisabled", type := .boolean, accessFlags := 4120, slot := 0, constantValue := 0 }]
  methods := #[k10m0, k10m1, k10m2, k10m3]
  instanceTypes := #[]
  staticTypes := #[.boolean]
  resolved := Array.replicate 395 none
  statics := none }

def pool11 : Array CpInfo := pool [(1, .methodref 2 3), (0, .class_ 4), (0, .nameAndType 5 6), (0, u "java/lang/Object"), (0, u "<init>"), (0, u "()V"), (1, .class_ 10), (1, u "java/lang/Number"), (2, .class_ 14), (0, u "java/io/Serializable"), (0, u "serialVersionUID"), (0, u "J")] 20

def k11c0 : Code := { maxStack := 1, maxLocals := 1, code := jdk_18_method_1_code, exceptionTable := #[], attributes := #[] }
def k11m0 : Method := { name := "<init>", desc := "()V", sig := { parameters := [], returnType := none }, accessFlags := 1, code := some k11c0 }
/-- java/lang/Number -/
def k11 : Class := { plain "java/lang/Number" (some 0) with
  accessFlags := 1057
  interfaces := #[3]
  cf := some (fileOf pool11 8 #[] #[{ accessFlags := 1, nameIndex := 5, descriptorIndex := 6, attributes := #[] }] 1057 2 #[13] #[{ accessFlags := 26, nameIndex := 15, descriptorIndex := 16, attributes := #[] }])
  fields := #[{ name := "serialVersionUID", type := .long, accessFlags := 26, slot := 0, constantValue := 0 }]
  methods := #[k11m0]
  instanceTypes := #[]
  staticTypes := #[.long]
  resolved := Array.replicate 37 none
  statics := none }

def pool12 : Array CpInfo := pool [(1, .class_ 2), (0, u "java/lang/Integer"), (16, u "digits"), (0, u "[C"), (46, u "<init>"), (17, u "DigitOnes"), (0, u "[B"), (2, u "DigitTens"), (10, .nameAndType 67 101), (0, u "()V"), (85, u "valueOf"), (0, u "(I)Ljava/lang/Integer;"), (0, .class_ 190), (0, u "java/lang/Integer$IntegerCache"), (0, .fieldref 189 192), (0, .nameAndType 193 194), (0, u "high"), (0, u "I"), (0, .fieldref 189 196), (0, .nameAndType 197 198), (0, u "cache"), (0, u "[Ljava/lang/Integer;"), (0, .methodref 1 200), (0, .nameAndType 67 201), (0, u "(I)V"), (0, .methodref 203 100), (0, .class_ 204), (0, u "java/lang/Number"), (0, .fieldref 1 206), (0, .nameAndType 207 194), (0, u "value"), (94, u "TYPE"), (0, u "Ljava/lang/Class;"), (0, .class_ 305), (0, u "java/lang/Comparable"), (0, .class_ 307), (0, u "java/lang/constant/Constable"), (0, .class_ 309), (0, u "java/lang/constant/ConstantDesc"), (0, u "MIN_VALUE"), (1, u "MAX_VALUE"), (3, u "SIZE"), (1, u "BYTES"), (1, u "serialVersionUID"), (0, u "J")] 131

def k12c0 : Code := { maxStack := 3, maxLocals := 1, code := jdk_33_method_22_code, exceptionTable := #[], attributes := #[] }
def k12m0 : Method := { name := "valueOf", desc := "(I)Ljava/lang/Integer;", sig := { parameters := [.int], returnType := some (.object "java/lang/Integer") }, accessFlags := 9, code := some k12c0 }
def k12c1 : Code := { maxStack := 2, maxLocals := 2, code := jdk_33_method_23_code, exceptionTable := #[], attributes := #[] }
def k12m1 : Method := { name := "<init>", desc := "(I)V", sig := { parameters := [.int], returnType := none }, accessFlags := 1, code := some k12c1 }
/-- java/lang/Integer -/
def k12 : Class := { plain "java/lang/Integer" (some 11) with
  accessFlags := 49
  interfaces := #[4, 6, 7]
  cf := some (fileOf pool12 1 #[.nestMembers #[189]] #[{ accessFlags := 9, nameIndex := 187, descriptorIndex := 188, attributes := #[] }, { accessFlags := 1, nameIndex := 67, descriptorIndex := 201, attributes := #[] }] 49 203 #[304, 306, 308] #[{ accessFlags := 25, nameIndex := 310, descriptorIndex := 194, attributes := #[] }, { accessFlags := 25, nameIndex := 312, descriptorIndex := 194, attributes := #[] }, { accessFlags := 25, nameIndex := 302, descriptorIndex := 303, attributes := #[] }, { accessFlags := 24, nameIndex := 19, descriptorIndex := 20, attributes := #[] }, { accessFlags := 24, nameIndex := 89, descriptorIndex := 86, attributes := #[] }, { accessFlags := 24, nameIndex := 85, descriptorIndex := 86, attributes := #[] }, { accessFlags := 18, nameIndex := 207, descriptorIndex := 194, attributes := #[] }, { accessFlags := 25, nameIndex := 316, descriptorIndex := 194, attributes := #[] }, { accessFlags := 25, nameIndex := 318, descriptorIndex := 194, attributes := #[] }, { accessFlags := 26, nameIndex := 320, descriptorIndex := 321, attributes := #[] }])
  fields := #[{ name := "MIN_VALUE", type := .int, accessFlags := 25, slot := 0, constantValue := 0 }, { name := "MAX_VALUE", type := .int, accessFlags := 25, slot := 1, constantValue := 0 }, { name := "TYPE", type := (.object "java/lang/Class"), accessFlags := 25, slot := 2, constantValue := 0 }, { name := "digits", type := (.array .char), accessFlags := 24, slot := 3, constantValue := 0 }, { name := "DigitTens", type := (.array .byte), accessFlags := 24, slot := 4, constantValue := 0 }, { name := "DigitOnes", type := (.array .byte), accessFlags := 24, slot := 5, constantValue := 0 }, { name := "value", type := .int, accessFlags := 18, slot := 0, constantValue := 0 }, { name := "SIZE", type := .int, accessFlags := 25, slot := 6, constantValue := 0 }, { name := "BYTES", type := .int, accessFlags := 25, slot := 7, constantValue := 0 }, { name := "serialVersionUID", type := .long, accessFlags := 26, slot := 8, constantValue := 0 }]
  methods := #[k12m0, k12m1]
  instanceTypes := #[.int]
  staticTypes := #[.int, .int, (.object "java/lang/Class"), (.array .char), (.array .byte), (.array .byte), .int, .int, .long]
  resolved := Array.replicate 453 none
  statics := none }

def pool13 : Array CpInfo := pool [(2, .class_ 4), (1, u "java/lang/Object"), (0, u "<init>"), (0, u "()V"), (0, .class_ 8), (0, u "java/lang/Integer"), (7, .class_ 18), (1, u "java/lang/Integer$IntegerCache"), (0, u "$assertionsDisabled"), (0, u "Z"), (26, u "high"), (0, u "I"), (8, u "archivedCache"), (0, u "[Ljava/lang/Integer;"), (12, u "cache"), (0, u "low")] 27

def k13m0 : Method := { name := "<init>", desc := "()V", sig := { parameters := [], returnType := none }, accessFlags := 2, code := none }
/-- java/lang/Integer$IntegerCache -/
def k13 : Class := { plain "java/lang/Integer$IntegerCache" (some 0) with
  accessFlags := 48
  interfaces := #[]
  cf := some (fileOf pool13 16 #[.nestHost 7] #[{ accessFlags := 2, nameIndex := 5, descriptorIndex := 6, attributes := #[] }] 48 2 #[] #[{ accessFlags := 24, nameIndex := 72, descriptorIndex := 48, attributes := #[] }, { accessFlags := 24, nameIndex := 47, descriptorIndex := 48, attributes := #[] }, { accessFlags := 24, nameIndex := 71, descriptorIndex := 58, attributes := #[] }, { accessFlags := 8, nameIndex := 57, descriptorIndex := 58, attributes := #[] }, { accessFlags := 4120, nameIndex := 19, descriptorIndex := 20, attributes := #[] }])
  fields := #[{ name := "low", type := .int, accessFlags := 24, slot := 0, constantValue := 0 }, { name := "high", type := .int, accessFlags := 24, slot := 1, constantValue := 0 }, { name := "cache", type := (.array (.object "java/lang/Integer")), accessFlags := 24, slot := 2, constantValue := 0 }, { name := "archivedCache", type := (.array (.object "java/lang/Integer")), accessFlags := 8, slot := 3, constantValue := 0 }, { name := "$assertionsDisabled", type := .boolean, accessFlags := 4120, slot := 4, constantValue := 0 }]
  methods := #[k13m0]
  instanceTypes := #[]
  staticTypes := #[.int, .int, (.array (.object "java/lang/Integer")), (.array (.object "java/lang/Integer")), .boolean]
  resolved := Array.replicate 100 none
  statics := some 1 }

def pool14 : Array CpInfo := pool [(2, .class_ 4), (1, u "java/lang/Object"), (0, u "<init>"), (0, u "()V"), (17, .class_ 26), (1, u "jdk/internal/util/Preconditions"), (28, .class_ 56), (0, u "jdk/internal/util/Preconditions$4"), (57, .class_ 115), (0, u "jdk/internal/util/Preconditions$1"), (7, u "SIOOBE_FORMATTER"), (0, u "Ljava/util/function/BiFunction;"), (0, .class_ 126), (0, u "jdk/internal/util/Preconditions$2"), (3, u "AIOOBE_FORMATTER"), (0, .class_ 132), (0, u "jdk/internal/util/Preconditions$3"), (3, u "IOOBE_FORMATTER")] 57

def k14m0 : Method := { name := "<init>", desc := "()V", sig := { parameters := [], returnType := none }, accessFlags := 1, code := none }
/-- jdk/internal/util/Preconditions -/
def k14 : Class := { plain "jdk/internal/util/Preconditions" (some 0) with
  accessFlags := 33
  interfaces := #[]
  cf := some (fileOf pool14 24 #[.nestMembers #[55, 131, 125, 114]] #[{ accessFlags := 1, nameIndex := 5, descriptorIndex := 6, attributes := #[] }] 33 2 #[] #[{ accessFlags := 25, nameIndex := 123, descriptorIndex := 124, attributes := #[] }, { accessFlags := 25, nameIndex := 130, descriptorIndex := 124, attributes := #[] }, { accessFlags := 25, nameIndex := 136, descriptorIndex := 124, attributes := #[] }])
  fields := #[{ name := "SIOOBE_FORMATTER", type := (.object "java/util/function/BiFunction"), accessFlags := 25, slot := 0, constantValue := 0 }, { name := "AIOOBE_FORMATTER", type := (.object "java/util/function/BiFunction"), accessFlags := 25, slot := 1, constantValue := 0 }, { name := "IOOBE_FORMATTER", type := (.object "java/util/function/BiFunction"), accessFlags := 25, slot := 2, constantValue := 0 }]
  methods := #[k14m0]
  instanceTypes := #[]
  staticTypes := #[(.object "java/util/function/BiFunction"), (.object "java/util/function/BiFunction"), (.object "java/util/function/BiFunction")]
  resolved := Array.replicate 194 none
  statics := some 2 }

def pool15 : Array CpInfo := pool [(9, u "<init>"), (6, .class_ 18), (1, u "java/lang/Object"), (0, u "()V"), (1, .class_ 23), (1, u "jdk/internal/util/ArraysSupport"), (0, u "LOG2_ARRAY_LONG_INDEX_SCALE"), (0, u "I"), (2, u "U"), (0, u "Ljdk/internal/misc/Unsafe;"), (8, u "BIG_ENDIAN"), (0, u "Z"), (8, u "LOG2_BYTE_BIT_SIZE"), (4, u "LOG2_ARRAY_INT_INDEX_SCALE"), (54, u "JLA"), (0, u "Ljdk/internal/access/JavaLangAccess;"), (11, u "LOG2_ARRAY_BOOLEAN_INDEX_SCALE"), (9, u "LOG2_ARRAY_BYTE_INDEX_SCALE"), (5, u "LOG2_ARRAY_CHAR_INDEX_SCALE"), (5, u "LOG2_ARRAY_SHORT_INDEX_SCALE"), (18, u "LOG2_ARRAY_FLOAT_INDEX_SCALE"), (24, u "LOG2_ARRAY_DOUBLE_INDEX_SCALE"), (89, u "T_BOOLEAN"), (2, u "T_CHAR"), (1, u "T_FLOAT"), (1, u "T_DOUBLE"), (1, u "T_BYTE"), (1, u "T_SHORT"), (1, u "T_INT"), (1, u "T_LONG"), (1, u "SOFT_MAX_ARRAY_LENGTH")] 83

def k15m0 : Method := { name := "<init>", desc := "()V", sig := { parameters := [], returnType := none }, accessFlags := 2, code := none }
/-- jdk/internal/util/ArraysSupport -/
def k15 : Class := { plain "jdk/internal/util/ArraysSupport" (some 0) with
  accessFlags := 33
  interfaces := #[]
  cf := some (fileOf pool15 21 #[] #[{ accessFlags := 2, nameIndex := 9, descriptorIndex := 19, attributes := #[] }] 33 16 #[] #[{ accessFlags := 24, nameIndex := 28, descriptorIndex := 29, attributes := #[] }, { accessFlags := 26, nameIndex := 38, descriptorIndex := 39, attributes := #[] }, { accessFlags := 25, nameIndex := 121, descriptorIndex := 25, attributes := #[] }, { accessFlags := 25, nameIndex := 131, descriptorIndex := 25, attributes := #[] }, { accessFlags := 25, nameIndex := 137, descriptorIndex := 25, attributes := #[] }, { accessFlags := 25, nameIndex := 143, descriptorIndex := 25, attributes := #[] }, { accessFlags := 25, nameIndex := 53, descriptorIndex := 25, attributes := #[] }, { accessFlags := 25, nameIndex := 24, descriptorIndex := 25, attributes := #[] }, { accessFlags := 25, nameIndex := 162, descriptorIndex := 25, attributes := #[] }, { accessFlags := 25, nameIndex := 187, descriptorIndex := 25, attributes := #[] }, { accessFlags := 26, nameIndex := 48, descriptorIndex := 25, attributes := #[] }, { accessFlags := 25, nameIndex := 277, descriptorIndex := 25, attributes := #[] }, { accessFlags := 25, nameIndex := 280, descriptorIndex := 25, attributes := #[] }, { accessFlags := 25, nameIndex := 282, descriptorIndex := 25, attributes := #[] }, { accessFlags := 25, nameIndex := 284, descriptorIndex := 25, attributes := #[] }, { accessFlags := 25, nameIndex := 286, descriptorIndex := 25, attributes := #[] }, { accessFlags := 25, nameIndex := 288, descriptorIndex := 25, attributes := #[] }, { accessFlags := 25, nameIndex := 290, descriptorIndex := 25, attributes := #[] }, { accessFlags := 25, nameIndex := 292, descriptorIndex := 25, attributes := #[] }, { accessFlags := 26, nameIndex := 108, descriptorIndex := 109, attributes := #[] }, { accessFlags := 25, nameIndex := 294, descriptorIndex := 25, attributes := #[] }])
  fields := #[{ name := "U", type := (.object "jdk/internal/misc/Unsafe"), accessFlags := 24, slot := 0, constantValue := 0 }, { name := "BIG_ENDIAN", type := .boolean, accessFlags := 26, slot := 1, constantValue := 0 }, { name := "LOG2_ARRAY_BOOLEAN_INDEX_SCALE", type := .int, accessFlags := 25, slot := 2, constantValue := 0 }, { name := "LOG2_ARRAY_BYTE_INDEX_SCALE", type := .int, accessFlags := 25, slot := 3, constantValue := 0 }, { name := "LOG2_ARRAY_CHAR_INDEX_SCALE", type := .int, accessFlags := 25, slot := 4, constantValue := 0 }, { name := "LOG2_ARRAY_SHORT_INDEX_SCALE", type := .int, accessFlags := 25, slot := 5, constantValue := 0 }, { name := "LOG2_ARRAY_INT_INDEX_SCALE", type := .int, accessFlags := 25, slot := 6, constantValue := 0 }, { name := "LOG2_ARRAY_LONG_INDEX_SCALE", type := .int, accessFlags := 25, slot := 7, constantValue := 0 }, { name := "LOG2_ARRAY_FLOAT_INDEX_SCALE", type := .int, accessFlags := 25, slot := 8, constantValue := 0 }, { name := "LOG2_ARRAY_DOUBLE_INDEX_SCALE", type := .int, accessFlags := 25, slot := 9, constantValue := 0 }, { name := "LOG2_BYTE_BIT_SIZE", type := .int, accessFlags := 26, slot := 10, constantValue := 0 }, { name := "T_BOOLEAN", type := .int, accessFlags := 25, slot := 11, constantValue := 0 }, { name := "T_CHAR", type := .int, accessFlags := 25, slot := 12, constantValue := 0 }, { name := "T_FLOAT", type := .int, accessFlags := 25, slot := 13, constantValue := 0 }, { name := "T_DOUBLE", type := .int, accessFlags := 25, slot := 14, constantValue := 0 }, { name := "T_BYTE", type := .int, accessFlags := 25, slot := 15, constantValue := 0 }, { name := "T_SHORT", type := .int, accessFlags := 25, slot := 16, constantValue := 0 }, { name := "T_INT", type := .int, accessFlags := 25, slot := 17, constantValue := 0 }, { name := "T_LONG", type := .int, accessFlags := 25, slot := 18, constantValue := 0 }, { name := "JLA", type := (.object "jdk/internal/access/JavaLangAccess"), accessFlags := 26, slot := 19, constantValue := 0 }, { name := "SOFT_MAX_ARRAY_LENGTH", type := .int, accessFlags := 25, slot := 20, constantValue := 0 }]
  methods := #[k15m0]
  instanceTypes := #[]
  staticTypes := #[(.object "jdk/internal/misc/Unsafe"), .boolean, .int, .int, .int, .int, .int, .int, .int, .int, .int, .int, .int, .int, .int, .int, .int, .int, .int, (.object "jdk/internal/access/JavaLangAccess"), .int]
  resolved := Array.replicate 378 none
  statics := none }

def pool16 : Array CpInfo := pool [(1, u "java/lang/Cloneable"), (0, .class_ 1), (0, u "java/lang/Object"), (0, .class_ 3)] 3

/-- java/lang/Cloneable -/
def k16 : Class := { plain "java/lang/Cloneable" (some 0) with
  accessFlags := 1537
  interfaces := #[]
  cf := some (fileOf pool16 2 #[] #[] 1537 4 #[] #[])
  fields := #[]
  methods := #[]
  instanceTypes := #[]
  staticTypes := #[]
  resolved := Array.replicate 8 none
  statics := none }

/-- the primitive byte -/
def k17 : Class := { plain "byte" none with kind := .primitive 'B', accessFlags := 0x411 }
/-- [B -/
def k18 : Class := { plain "[B" (some 0) with kind := .array 17 .byte, interfaces := #[16, 3], accessFlags := 1041 }

/-- the primitive char -/
def k19 : Class := { plain "char" none with kind := .primitive 'C', accessFlags := 0x411 }
/-- [C -/
def k20 : Class := { plain "[C" (some 0) with kind := .array 19 .char, interfaces := #[16, 3], accessFlags := 1041 }

/-- the primitive int -/
def k21 : Class := { plain "int" none with kind := .primitive 'I', accessFlags := 0x411 }
/-- [I -/
def k22 : Class := { plain "[I" (some 0) with kind := .array 21 .int, interfaces := #[16, 3], accessFlags := 1041 }

/-- [Ljava/lang/Integer; -/
def k23 : Class := { plain "[Ljava/lang/Integer;" (some 0) with kind := .array 12 (.object "java/lang/Integer"), interfaces := #[16, 3], accessFlags := 1041 }

def heap : Heap := #[{ cls := 8, slots := #[.long 0, .int 1, .null, .int 0, .null, .int 0, .int 0], vm := .statics 8 },
  { cls := 13, slots := #[.int 0, .int 127, .ref 3, .null, .int 0], vm := .statics 13 },
  { cls := 14, slots := #[.null, .null, .null], vm := .statics 14 },
  { cls := 23, slots := #[.ref 4, .ref 5, .ref 6, .ref 7, .ref 8, .ref 9, .ref 10, .ref 11, .ref 12, .ref 13, .ref 14, .ref 15, .ref 16, .ref 17, .ref 18, .ref 19, .ref 20, .ref 21, .ref 22, .ref 23, .ref 24, .ref 25, .ref 26, .ref 27, .ref 28, .ref 29, .ref 30, .ref 31, .ref 32, .ref 33, .ref 34, .ref 35, .ref 36, .ref 37, .ref 38, .ref 39, .ref 40, .ref 41, .ref 42, .ref 43, .ref 44, .ref 45, .ref 46, .ref 47, .ref 48, .ref 49, .ref 50, .ref 51, .ref 52, .ref 53, .ref 54, .ref 55, .ref 56, .ref 57, .ref 58, .ref 59, .ref 60, .ref 61, .ref 62, .ref 63, .ref 64, .ref 65, .ref 66, .ref 67, .ref 68, .ref 69, .ref 70, .ref 71, .ref 72, .ref 73, .ref 74, .ref 75, .ref 76, .ref 77, .ref 78, .ref 79, .ref 80, .ref 81, .ref 82, .ref 83, .ref 84, .ref 85, .ref 86, .ref 87, .ref 88, .ref 89, .ref 90, .ref 91, .ref 92, .ref 93, .ref 94, .ref 95, .ref 96, .ref 97, .ref 98, .ref 99, .ref 100, .ref 101, .ref 102, .ref 103, .ref 104, .ref 105, .ref 106, .ref 107, .ref 108, .ref 109, .ref 110, .ref 111, .ref 112, .ref 113, .ref 114, .ref 115, .ref 116, .ref 117, .ref 118, .ref 119, .ref 120, .ref 121, .ref 122, .ref 123, .ref 124, .ref 125, .ref 126, .ref 127, .ref 128, .ref 129, .ref 130, .ref 131, .ref 132, .ref 133, .ref 134, .ref 135, .ref 136, .ref 137, .ref 138, .ref 139, .ref 140, .ref 141, .ref 142, .ref 143, .ref 144, .ref 145, .ref 146, .ref 147, .ref 148, .ref 149, .ref 150, .ref 151, .ref 152, .ref 153, .ref 154, .ref 155, .ref 156, .ref 157, .ref 158, .ref 159, .ref 160, .ref 161, .ref 162, .ref 163, .ref 164, .ref 165, .ref 166, .ref 167, .ref 168, .ref 169, .ref 170, .ref 171, .ref 172, .ref 173, .ref 174, .ref 175, .ref 176, .ref 177, .ref 178, .ref 179, .ref 180, .ref 181, .ref 182, .ref 183, .ref 184, .ref 185, .ref 186, .ref 187, .ref 188, .ref 189, .ref 190, .ref 191, .ref 192, .ref 193, .ref 194, .ref 195, .ref 196, .ref 197, .ref 198, .ref 199, .ref 200, .ref 201, .ref 202, .ref 203, .ref 204, .ref 205, .ref 206, .ref 207, .ref 208, .ref 209, .ref 210, .ref 211, .ref 212, .ref 213, .ref 214, .ref 215, .ref 216, .ref 217, .ref 218, .ref 219, .ref 220, .ref 221, .ref 222, .ref 223, .ref 224, .ref 225, .ref 226, .ref 227, .ref 228, .ref 229, .ref 230, .ref 231, .ref 232, .ref 233, .ref 234, .ref 235, .ref 236, .ref 237, .ref 238, .ref 239, .ref 240, .ref 241, .ref 242, .ref 243, .ref 244, .ref 245, .ref 246, .ref 247, .ref 248, .ref 249, .ref 250, .ref 251, .ref 252, .ref 253, .ref 254, .ref 255, .ref 256, .ref 257, .ref 258, .ref 259], vm := .none },
  { cls := 12, slots := #[.int (-128)], vm := .none },
  { cls := 12, slots := #[.int (-127)], vm := .none },
  { cls := 12, slots := #[.int (-126)], vm := .none },
  { cls := 12, slots := #[.int (-125)], vm := .none },
  { cls := 12, slots := #[.int (-124)], vm := .none },
  { cls := 12, slots := #[.int (-123)], vm := .none },
  { cls := 12, slots := #[.int (-122)], vm := .none },
  { cls := 12, slots := #[.int (-121)], vm := .none },
  { cls := 12, slots := #[.int (-120)], vm := .none },
  { cls := 12, slots := #[.int (-119)], vm := .none },
  { cls := 12, slots := #[.int (-118)], vm := .none },
  { cls := 12, slots := #[.int (-117)], vm := .none },
  { cls := 12, slots := #[.int (-116)], vm := .none },
  { cls := 12, slots := #[.int (-115)], vm := .none },
  { cls := 12, slots := #[.int (-114)], vm := .none },
  { cls := 12, slots := #[.int (-113)], vm := .none },
  { cls := 12, slots := #[.int (-112)], vm := .none },
  { cls := 12, slots := #[.int (-111)], vm := .none },
  { cls := 12, slots := #[.int (-110)], vm := .none },
  { cls := 12, slots := #[.int (-109)], vm := .none },
  { cls := 12, slots := #[.int (-108)], vm := .none },
  { cls := 12, slots := #[.int (-107)], vm := .none },
  { cls := 12, slots := #[.int (-106)], vm := .none },
  { cls := 12, slots := #[.int (-105)], vm := .none },
  { cls := 12, slots := #[.int (-104)], vm := .none },
  { cls := 12, slots := #[.int (-103)], vm := .none },
  { cls := 12, slots := #[.int (-102)], vm := .none },
  { cls := 12, slots := #[.int (-101)], vm := .none },
  { cls := 12, slots := #[.int (-100)], vm := .none },
  { cls := 12, slots := #[.int (-99)], vm := .none },
  { cls := 12, slots := #[.int (-98)], vm := .none },
  { cls := 12, slots := #[.int (-97)], vm := .none },
  { cls := 12, slots := #[.int (-96)], vm := .none },
  { cls := 12, slots := #[.int (-95)], vm := .none },
  { cls := 12, slots := #[.int (-94)], vm := .none },
  { cls := 12, slots := #[.int (-93)], vm := .none },
  { cls := 12, slots := #[.int (-92)], vm := .none },
  { cls := 12, slots := #[.int (-91)], vm := .none },
  { cls := 12, slots := #[.int (-90)], vm := .none },
  { cls := 12, slots := #[.int (-89)], vm := .none },
  { cls := 12, slots := #[.int (-88)], vm := .none },
  { cls := 12, slots := #[.int (-87)], vm := .none },
  { cls := 12, slots := #[.int (-86)], vm := .none },
  { cls := 12, slots := #[.int (-85)], vm := .none },
  { cls := 12, slots := #[.int (-84)], vm := .none },
  { cls := 12, slots := #[.int (-83)], vm := .none },
  { cls := 12, slots := #[.int (-82)], vm := .none },
  { cls := 12, slots := #[.int (-81)], vm := .none },
  { cls := 12, slots := #[.int (-80)], vm := .none },
  { cls := 12, slots := #[.int (-79)], vm := .none },
  { cls := 12, slots := #[.int (-78)], vm := .none },
  { cls := 12, slots := #[.int (-77)], vm := .none },
  { cls := 12, slots := #[.int (-76)], vm := .none },
  { cls := 12, slots := #[.int (-75)], vm := .none },
  { cls := 12, slots := #[.int (-74)], vm := .none },
  { cls := 12, slots := #[.int (-73)], vm := .none },
  { cls := 12, slots := #[.int (-72)], vm := .none },
  { cls := 12, slots := #[.int (-71)], vm := .none },
  { cls := 12, slots := #[.int (-70)], vm := .none },
  { cls := 12, slots := #[.int (-69)], vm := .none },
  { cls := 12, slots := #[.int (-68)], vm := .none },
  { cls := 12, slots := #[.int (-67)], vm := .none },
  { cls := 12, slots := #[.int (-66)], vm := .none },
  { cls := 12, slots := #[.int (-65)], vm := .none },
  { cls := 12, slots := #[.int (-64)], vm := .none },
  { cls := 12, slots := #[.int (-63)], vm := .none },
  { cls := 12, slots := #[.int (-62)], vm := .none },
  { cls := 12, slots := #[.int (-61)], vm := .none },
  { cls := 12, slots := #[.int (-60)], vm := .none },
  { cls := 12, slots := #[.int (-59)], vm := .none },
  { cls := 12, slots := #[.int (-58)], vm := .none },
  { cls := 12, slots := #[.int (-57)], vm := .none },
  { cls := 12, slots := #[.int (-56)], vm := .none },
  { cls := 12, slots := #[.int (-55)], vm := .none },
  { cls := 12, slots := #[.int (-54)], vm := .none },
  { cls := 12, slots := #[.int (-53)], vm := .none },
  { cls := 12, slots := #[.int (-52)], vm := .none },
  { cls := 12, slots := #[.int (-51)], vm := .none },
  { cls := 12, slots := #[.int (-50)], vm := .none },
  { cls := 12, slots := #[.int (-49)], vm := .none },
  { cls := 12, slots := #[.int (-48)], vm := .none },
  { cls := 12, slots := #[.int (-47)], vm := .none },
  { cls := 12, slots := #[.int (-46)], vm := .none },
  { cls := 12, slots := #[.int (-45)], vm := .none },
  { cls := 12, slots := #[.int (-44)], vm := .none },
  { cls := 12, slots := #[.int (-43)], vm := .none },
  { cls := 12, slots := #[.int (-42)], vm := .none },
  { cls := 12, slots := #[.int (-41)], vm := .none },
  { cls := 12, slots := #[.int (-40)], vm := .none },
  { cls := 12, slots := #[.int (-39)], vm := .none },
  { cls := 12, slots := #[.int (-38)], vm := .none },
  { cls := 12, slots := #[.int (-37)], vm := .none },
  { cls := 12, slots := #[.int (-36)], vm := .none },
  { cls := 12, slots := #[.int (-35)], vm := .none },
  { cls := 12, slots := #[.int (-34)], vm := .none },
  { cls := 12, slots := #[.int (-33)], vm := .none },
  { cls := 12, slots := #[.int (-32)], vm := .none },
  { cls := 12, slots := #[.int (-31)], vm := .none },
  { cls := 12, slots := #[.int (-30)], vm := .none },
  { cls := 12, slots := #[.int (-29)], vm := .none },
  { cls := 12, slots := #[.int (-28)], vm := .none },
  { cls := 12, slots := #[.int (-27)], vm := .none },
  { cls := 12, slots := #[.int (-26)], vm := .none },
  { cls := 12, slots := #[.int (-25)], vm := .none },
  { cls := 12, slots := #[.int (-24)], vm := .none },
  { cls := 12, slots := #[.int (-23)], vm := .none },
  { cls := 12, slots := #[.int (-22)], vm := .none },
  { cls := 12, slots := #[.int (-21)], vm := .none },
  { cls := 12, slots := #[.int (-20)], vm := .none },
  { cls := 12, slots := #[.int (-19)], vm := .none },
  { cls := 12, slots := #[.int (-18)], vm := .none },
  { cls := 12, slots := #[.int (-17)], vm := .none },
  { cls := 12, slots := #[.int (-16)], vm := .none },
  { cls := 12, slots := #[.int (-15)], vm := .none },
  { cls := 12, slots := #[.int (-14)], vm := .none },
  { cls := 12, slots := #[.int (-13)], vm := .none },
  { cls := 12, slots := #[.int (-12)], vm := .none },
  { cls := 12, slots := #[.int (-11)], vm := .none },
  { cls := 12, slots := #[.int (-10)], vm := .none },
  { cls := 12, slots := #[.int (-9)], vm := .none },
  { cls := 12, slots := #[.int (-8)], vm := .none },
  { cls := 12, slots := #[.int (-7)], vm := .none },
  { cls := 12, slots := #[.int (-6)], vm := .none },
  { cls := 12, slots := #[.int (-5)], vm := .none },
  { cls := 12, slots := #[.int (-4)], vm := .none },
  { cls := 12, slots := #[.int (-3)], vm := .none },
  { cls := 12, slots := #[.int (-2)], vm := .none },
  { cls := 12, slots := #[.int (-1)], vm := .none },
  { cls := 12, slots := #[.int (0)], vm := .none },
  { cls := 12, slots := #[.int (1)], vm := .none },
  { cls := 12, slots := #[.int (2)], vm := .none },
  { cls := 12, slots := #[.int (3)], vm := .none },
  { cls := 12, slots := #[.int (4)], vm := .none },
  { cls := 12, slots := #[.int (5)], vm := .none },
  { cls := 12, slots := #[.int (6)], vm := .none },
  { cls := 12, slots := #[.int (7)], vm := .none },
  { cls := 12, slots := #[.int (8)], vm := .none },
  { cls := 12, slots := #[.int (9)], vm := .none },
  { cls := 12, slots := #[.int (10)], vm := .none },
  { cls := 12, slots := #[.int (11)], vm := .none },
  { cls := 12, slots := #[.int (12)], vm := .none },
  { cls := 12, slots := #[.int (13)], vm := .none },
  { cls := 12, slots := #[.int (14)], vm := .none },
  { cls := 12, slots := #[.int (15)], vm := .none },
  { cls := 12, slots := #[.int (16)], vm := .none },
  { cls := 12, slots := #[.int (17)], vm := .none },
  { cls := 12, slots := #[.int (18)], vm := .none },
  { cls := 12, slots := #[.int (19)], vm := .none },
  { cls := 12, slots := #[.int (20)], vm := .none },
  { cls := 12, slots := #[.int (21)], vm := .none },
  { cls := 12, slots := #[.int (22)], vm := .none },
  { cls := 12, slots := #[.int (23)], vm := .none },
  { cls := 12, slots := #[.int (24)], vm := .none },
  { cls := 12, slots := #[.int (25)], vm := .none },
  { cls := 12, slots := #[.int (26)], vm := .none },
  { cls := 12, slots := #[.int (27)], vm := .none },
  { cls := 12, slots := #[.int (28)], vm := .none },
  { cls := 12, slots := #[.int (29)], vm := .none },
  { cls := 12, slots := #[.int (30)], vm := .none },
  { cls := 12, slots := #[.int (31)], vm := .none },
  { cls := 12, slots := #[.int (32)], vm := .none },
  { cls := 12, slots := #[.int (33)], vm := .none },
  { cls := 12, slots := #[.int (34)], vm := .none },
  { cls := 12, slots := #[.int (35)], vm := .none },
  { cls := 12, slots := #[.int (36)], vm := .none },
  { cls := 12, slots := #[.int (37)], vm := .none },
  { cls := 12, slots := #[.int (38)], vm := .none },
  { cls := 12, slots := #[.int (39)], vm := .none },
  { cls := 12, slots := #[.int (40)], vm := .none },
  { cls := 12, slots := #[.int (41)], vm := .none },
  { cls := 12, slots := #[.int (42)], vm := .none },
  { cls := 12, slots := #[.int (43)], vm := .none },
  { cls := 12, slots := #[.int (44)], vm := .none },
  { cls := 12, slots := #[.int (45)], vm := .none },
  { cls := 12, slots := #[.int (46)], vm := .none },
  { cls := 12, slots := #[.int (47)], vm := .none },
  { cls := 12, slots := #[.int (48)], vm := .none },
  { cls := 12, slots := #[.int (49)], vm := .none },
  { cls := 12, slots := #[.int (50)], vm := .none },
  { cls := 12, slots := #[.int (51)], vm := .none },
  { cls := 12, slots := #[.int (52)], vm := .none },
  { cls := 12, slots := #[.int (53)], vm := .none },
  { cls := 12, slots := #[.int (54)], vm := .none },
  { cls := 12, slots := #[.int (55)], vm := .none },
  { cls := 12, slots := #[.int (56)], vm := .none },
  { cls := 12, slots := #[.int (57)], vm := .none },
  { cls := 12, slots := #[.int (58)], vm := .none },
  { cls := 12, slots := #[.int (59)], vm := .none },
  { cls := 12, slots := #[.int (60)], vm := .none },
  { cls := 12, slots := #[.int (61)], vm := .none },
  { cls := 12, slots := #[.int (62)], vm := .none },
  { cls := 12, slots := #[.int (63)], vm := .none },
  { cls := 12, slots := #[.int (64)], vm := .none },
  { cls := 12, slots := #[.int (65)], vm := .none },
  { cls := 12, slots := #[.int (66)], vm := .none },
  { cls := 12, slots := #[.int (67)], vm := .none },
  { cls := 12, slots := #[.int (68)], vm := .none },
  { cls := 12, slots := #[.int (69)], vm := .none },
  { cls := 12, slots := #[.int (70)], vm := .none },
  { cls := 12, slots := #[.int (71)], vm := .none },
  { cls := 12, slots := #[.int (72)], vm := .none },
  { cls := 12, slots := #[.int (73)], vm := .none },
  { cls := 12, slots := #[.int (74)], vm := .none },
  { cls := 12, slots := #[.int (75)], vm := .none },
  { cls := 12, slots := #[.int (76)], vm := .none },
  { cls := 12, slots := #[.int (77)], vm := .none },
  { cls := 12, slots := #[.int (78)], vm := .none },
  { cls := 12, slots := #[.int (79)], vm := .none },
  { cls := 12, slots := #[.int (80)], vm := .none },
  { cls := 12, slots := #[.int (81)], vm := .none },
  { cls := 12, slots := #[.int (82)], vm := .none },
  { cls := 12, slots := #[.int (83)], vm := .none },
  { cls := 12, slots := #[.int (84)], vm := .none },
  { cls := 12, slots := #[.int (85)], vm := .none },
  { cls := 12, slots := #[.int (86)], vm := .none },
  { cls := 12, slots := #[.int (87)], vm := .none },
  { cls := 12, slots := #[.int (88)], vm := .none },
  { cls := 12, slots := #[.int (89)], vm := .none },
  { cls := 12, slots := #[.int (90)], vm := .none },
  { cls := 12, slots := #[.int (91)], vm := .none },
  { cls := 12, slots := #[.int (92)], vm := .none },
  { cls := 12, slots := #[.int (93)], vm := .none },
  { cls := 12, slots := #[.int (94)], vm := .none },
  { cls := 12, slots := #[.int (95)], vm := .none },
  { cls := 12, slots := #[.int (96)], vm := .none },
  { cls := 12, slots := #[.int (97)], vm := .none },
  { cls := 12, slots := #[.int (98)], vm := .none },
  { cls := 12, slots := #[.int (99)], vm := .none },
  { cls := 12, slots := #[.int (100)], vm := .none },
  { cls := 12, slots := #[.int (101)], vm := .none },
  { cls := 12, slots := #[.int (102)], vm := .none },
  { cls := 12, slots := #[.int (103)], vm := .none },
  { cls := 12, slots := #[.int (104)], vm := .none },
  { cls := 12, slots := #[.int (105)], vm := .none },
  { cls := 12, slots := #[.int (106)], vm := .none },
  { cls := 12, slots := #[.int (107)], vm := .none },
  { cls := 12, slots := #[.int (108)], vm := .none },
  { cls := 12, slots := #[.int (109)], vm := .none },
  { cls := 12, slots := #[.int (110)], vm := .none },
  { cls := 12, slots := #[.int (111)], vm := .none },
  { cls := 12, slots := #[.int (112)], vm := .none },
  { cls := 12, slots := #[.int (113)], vm := .none },
  { cls := 12, slots := #[.int (114)], vm := .none },
  { cls := 12, slots := #[.int (115)], vm := .none },
  { cls := 12, slots := #[.int (116)], vm := .none },
  { cls := 12, slots := #[.int (117)], vm := .none },
  { cls := 12, slots := #[.int (118)], vm := .none },
  { cls := 12, slots := #[.int (119)], vm := .none },
  { cls := 12, slots := #[.int (120)], vm := .none },
  { cls := 12, slots := #[.int (121)], vm := .none },
  { cls := 12, slots := #[.int (122)], vm := .none },
  { cls := 12, slots := #[.int (123)], vm := .none },
  { cls := 12, slots := #[.int (124)], vm := .none },
  { cls := 12, slots := #[.int (125)], vm := .none },
  { cls := 12, slots := #[.int (126)], vm := .none },
  { cls := 12, slots := #[.int (127)], vm := .none }]
def classes : Array Class := #[k0, k1, k2, k3, k4, k5, k6, k7, k8, k9, k10, k11, k12, k13, k14, k15, k16, k17, k18, k19, k20, k21, k22, k23]
def interned : List (Array UInt16 × Addr) := []
def slotsUsed : Nat := 527
def theMethod : MethodId := ⟨1, 2⟩
def args0 : Array Value := #[.int 0, .int 0, .int 0, .int 0, .int 0, .int 0]
def aboutOver (below : List Frame) : State where
  vm := { classes := classes, interned := interned.toArray }
  heap := heap
  slotsUsed := slotsUsed
  threads := #[{ frames := .invoking theMethod args0 :: below }]
def below0 : List Frame := [.native { method := ⟨0, 0⟩, args := #[] }]
def about1 : State := aboutOver below0
def p0 : Program := .bare "" "" ""
def e0 : Env := launch0.env 0 0 0
theorem w_frames : about1.frames = Frame.invoking theMethod args0 :: below0 := rfl
set_option maxRecDepth 65536 in
theorem w_args : argsFit about1.vm theMethod args0 = true := by decide +kernel
set_option maxRecDepth 65536 in
theorem w_heap : heapFits about1 = true := by decide +kernel
set_option maxRecDepth 65536 in
theorem w_runnable : about1.curStatus? = some .runnable := by decide +kernel
set_option maxRecDepth 65536 in
theorem w_alone : about1.alone = true := by decide +kernel
set_option maxRecDepth 65536 in
theorem w_named : about1.methodNamed? x = some theMethod := by decide +kernel
set_option maxRecDepth 65536 in
theorem w_hears : about1.hears theMethod below0 = true := by decide +kernel
set_option maxRecDepth 65536 in
theorem w_ripe : about1.ripe theMethod args0 below0 = true := by decide +kernel
theorem w_running : about1.status = .running := rfl
set_option maxRecDepth 65536 in
theorem w_room : about1.hasRoom e0.platform room_1 = true :=
  launch0.hasRoom_least _ room_1 (by decide +kernel) (by decide +kernel) (by decide +kernel) (by decide +kernel) (by decide +kernel) (by decide +kernel)
theorem allAtoms_all (ts : List Jvm.Cond) (a : Array Jvm.Value) (st : Jvm.State) : (allAtoms ts).before a st = ts.all (fun c => c.before a st) := by
  induction ts with
  | nil => rfl
  | cons c t ih =>
    show (Jvm.Cond.and c (allAtoms t)).before a st = _
    rw [Jvm.Cond.before_and, ih, List.all_cons]
def words1 : List Jvm.Cond := Jvm.Cond.code x code maxLocals ret :: tables_1
/-- a 'code' word, met by the world's own term for the bytes: nothing is compared byte by byte -/
theorem code_word {y : MethodName} {bytes : ByteArray} {mx : Nat} {rt : Option FieldType} {a : Array Value} {s : State} {m : MethodId} {meth : Method} {c : Code} (h1 : s.methodNamed? y = some m) (h2 : s.vm.method? m = some meth) (h3 : meth.code = some c) (h4 : c.code = bytes)
    (h5 : (c.maxLocals == mx && c.exceptionTable.isEmpty && decide (c.maxStack ≤ mostOperands) && decide (meth.sig.returnType = rt) && !meth.locks && decide (parseMethodDescriptor y.desc = some meth.sig)) = true) : (Jvm.Cond.code y bytes mx rt).before a s = true := by
  simp only [Bool.and_eq_true, beq_iff_eq, Bool.not_eq_true', decide_eq_true_eq] at h5
  obtain ⟨⟨⟨⟨⟨g1, g2⟩, g3⟩, g4⟩, g5⟩, g6⟩ := h5
  simp [Cond.before, Cond.holds, Cond.value, h1, h2, h3, h4, g1, g2, g3, g4, g5, g6]
def isCode : Jvm.Cond → Bool
  | .code _ _ _ _ => true
  | _ => false
theorem all_split {L : List Jvm.Cond} {P : Jvm.Cond → Bool} (h1 : L.all (fun c => isCode c || P c) = true) (h2 : ∀ c ∈ L.filter isCode, P c = true) : L.all P = true := by
  refine List.all_eq_true.mpr fun c hc => ?_
  have h := List.all_eq_true.mp h1 c hc
  rcases Bool.eq_false_or_eq_true (isCode c) with hi | hi
  · exact h2 c (List.mem_filter.mpr ⟨hc, hi⟩)
  · simpa [hi] using h
set_option maxRecDepth 65536 in
theorem w_c0 : (Jvm.Cond.code x code maxLocals ret).before args0 about1 = true := code_word (m := ⟨1, 2⟩) (meth := k1m2) (c := k1c2) (by decide +kernel) rfl rfl rfl (by decide +kernel)
set_option maxRecDepth 65536 in
theorem w_c1 : (Jvm.Cond.code ({ cls := "com/example/onceward/onceward/HostPortEqualsPinLaw", name := "text", desc := "(ICC)Ljava/lang/String;" } : Jvm.MethodName) method_2_code (4 : Nat) (Option.some (Jvm.ClassFile.FieldType.object "java/lang/String"))).before args0 about1 = true := code_word (m := ⟨1, 1⟩) (meth := k1m1) (c := k1c1) (by decide +kernel) rfl rfl rfl (by decide +kernel)
set_option maxRecDepth 65536 in
theorem w_c2 : (Jvm.Cond.code ({ cls := "com/example/onceward/onceward/HostPort", name := "<init>", desc := "(Ljava/lang/String;I)V" } : Jvm.MethodName) prog_9_method_1_code (3 : Nat) (Option.none : Option Jvm.ClassFile.FieldType)).before args0 about1 = true := code_word (m := ⟨2, 0⟩) (meth := k2m0) (c := k2c0) (by decide +kernel) rfl rfl rfl (by decide +kernel)
set_option maxRecDepth 65536 in
theorem w_c3 : (Jvm.Cond.code ({ cls := "java/lang/Object", name := "<init>", desc := "()V" } : Jvm.MethodName) object_method_1_code (1 : Nat) (Option.none : Option Jvm.ClassFile.FieldType)).before args0 about1 = true := code_word (m := ⟨0, 0⟩) (meth := k0m0) (c := k0c0) (by decide +kernel) rfl rfl rfl (by decide +kernel)
set_option maxRecDepth 65536 in
theorem w_c4 : (Jvm.Cond.code ({ cls := "com/example/onceward/onceward/HostPort", name := "equals", desc := "(Ljava/lang/Object;)Z" } : Jvm.MethodName) prog_9_method_5_code (2 : Nat) (Option.some Jvm.ClassFile.FieldType.boolean)).before args0 about1 = true := code_word (m := ⟨2, 1⟩) (meth := k2m1) (c := k2c1) (by decide +kernel) rfl rfl rfl (by decide +kernel)
set_option maxRecDepth 65536 in
theorem w_c5 : (Jvm.Cond.code ({ cls := "java/lang/String", name := "equals", desc := "(Ljava/lang/Object;)Z" } : Jvm.MethodName) jdk_42_method_66_code (3 : Nat) (Option.some Jvm.ClassFile.FieldType.boolean)).before args0 about1 = true := code_word (m := ⟨8, 2⟩) (meth := k8m2) (c := k8c2) (by decide +kernel) rfl rfl rfl (by decide +kernel)
set_option maxRecDepth 65536 in
theorem w_c6 : (Jvm.Cond.code ({ cls := "java/lang/String", name := "<init>", desc := "([C)V" } : Jvm.MethodName) jdk_42_method_3_code (2 : Nat) (Option.none : Option Jvm.ClassFile.FieldType)).before args0 about1 = true := code_word (m := ⟨8, 1⟩) (meth := k8m1) (c := k8c1) (by decide +kernel) rfl rfl rfl (by decide +kernel)
set_option maxRecDepth 65536 in
theorem w_c7 : (Jvm.Cond.code ({ cls := "java/lang/String", name := "<init>", desc := "([CIILjava/lang/Void;)V" } : Jvm.MethodName) jdk_42_method_149_code (6 : Nat) (Option.none : Option Jvm.ClassFile.FieldType)).before args0 about1 = true := code_word (m := ⟨8, 4⟩) (meth := k8m4) (c := k8c4) (by decide +kernel) rfl rfl rfl (by decide +kernel)
set_option maxRecDepth 65536 in
theorem w_c8 : (Jvm.Cond.code ({ cls := "java/lang/StringUTF16", name := "compress", desc := "([CII)[B" } : Jvm.MethodName) jdk_52_method_16_code (6 : Nat) (Option.some (Jvm.ClassFile.FieldType.array Jvm.ClassFile.FieldType.byte))).before args0 about1 = true := code_word (m := ⟨9, 2⟩) (meth := k9m2) (c := k9c2) (by decide +kernel) rfl rfl rfl (by decide +kernel)
set_option maxRecDepth 65536 in
theorem w_c9 : (Jvm.Cond.code ({ cls := "java/lang/StringUTF16", name := "compress", desc := "([CI[BII)I" } : Jvm.MethodName) jdk_52_method_21_code (7 : Nat) (Option.some Jvm.ClassFile.FieldType.int)).before args0 about1 = true := code_word (m := ⟨9, 3⟩) (meth := k9m3) (c := k9c3) (by decide +kernel) rfl rfl rfl (by decide +kernel)
set_option maxRecDepth 65536 in
theorem w_c10 : (Jvm.Cond.code ({ cls := "java/lang/StringUTF16", name := "coderFromArrayLen", desc := "([BI)B" } : Jvm.MethodName) jdk_52_method_15_code (2 : Nat) (Option.some Jvm.ClassFile.FieldType.byte)).before args0 about1 = true := code_word (m := ⟨9, 1⟩) (meth := k9m1) (c := k9c1) (by decide +kernel) rfl rfl rfl (by decide +kernel)
set_option maxRecDepth 65536 in
theorem w_c11 : (Jvm.Cond.code ({ cls := "java/lang/StringLatin1", name := "equals", desc := "([B[B)Z" } : Jvm.MethodName) jdk_43_method_13_code (3 : Nat) (Option.some Jvm.ClassFile.FieldType.boolean)).before args0 about1 = true := code_word (m := ⟨10, 2⟩) (meth := k10m2) (c := k10c2) (by decide +kernel) rfl rfl rfl (by decide +kernel)
set_option maxRecDepth 65536 in
theorem w_c12 : (Jvm.Cond.code ({ cls := "java/lang/String", name := "valueOf", desc := "(C)Ljava/lang/String;" } : Jvm.MethodName) jdk_42_method_139_code (1 : Nat) (Option.some (Jvm.ClassFile.FieldType.object "java/lang/String"))).before args0 about1 = true := code_word (m := ⟨8, 3⟩) (meth := k8m3) (c := k8c3) (by decide +kernel) rfl rfl rfl (by decide +kernel)
set_option maxRecDepth 65536 in
theorem w_c13 : (Jvm.Cond.code ({ cls := "java/lang/StringLatin1", name := "canEncode", desc := "(C)Z" } : Jvm.MethodName) jdk_43_method_3_code (1 : Nat) (Option.some Jvm.ClassFile.FieldType.boolean)).before args0 about1 = true := code_word (m := ⟨10, 1⟩) (meth := k10m1) (c := k10c1) (by decide +kernel) rfl rfl rfl (by decide +kernel)
set_option maxRecDepth 65536 in
theorem w_c14 : (Jvm.Cond.code ({ cls := "java/lang/StringLatin1", name := "toBytes", desc := "(C)[B" } : Jvm.MethodName) jdk_43_method_46_code (1 : Nat) (Option.some (Jvm.ClassFile.FieldType.array Jvm.ClassFile.FieldType.byte))).before args0 about1 = true := code_word (m := ⟨10, 3⟩) (meth := k10m3) (c := k10c3) (by decide +kernel) rfl rfl rfl (by decide +kernel)
set_option maxRecDepth 65536 in
theorem w_c15 : (Jvm.Cond.code ({ cls := "java/lang/String", name := "<init>", desc := "([BB)V" } : Jvm.MethodName) jdk_42_method_151_code (3 : Nat) (Option.none : Option Jvm.ClassFile.FieldType)).before args0 about1 = true := code_word (m := ⟨8, 5⟩) (meth := k8m5) (c := k8c5) (by decide +kernel) rfl rfl rfl (by decide +kernel)
set_option maxRecDepth 65536 in
theorem w_c16 : (Jvm.Cond.code ({ cls := "java/lang/Integer", name := "valueOf", desc := "(I)Ljava/lang/Integer;" } : Jvm.MethodName) jdk_33_method_22_code (1 : Nat) (Option.some (Jvm.ClassFile.FieldType.object "java/lang/Integer"))).before args0 about1 = true := code_word (m := ⟨12, 0⟩) (meth := k12m0) (c := k12c0) (by decide +kernel) rfl rfl rfl (by decide +kernel)
set_option maxRecDepth 65536 in
theorem w_c17 : (Jvm.Cond.code ({ cls := "java/lang/Integer", name := "<init>", desc := "(I)V" } : Jvm.MethodName) jdk_33_method_23_code (2 : Nat) (Option.none : Option Jvm.ClassFile.FieldType)).before args0 about1 = true := code_word (m := ⟨12, 1⟩) (meth := k12m1) (c := k12c1) (by decide +kernel) rfl rfl rfl (by decide +kernel)
set_option maxRecDepth 65536 in
theorem w_c18 : (Jvm.Cond.code ({ cls := "java/lang/Number", name := "<init>", desc := "()V" } : Jvm.MethodName) jdk_18_method_1_code (1 : Nat) (Option.none : Option Jvm.ClassFile.FieldType)).before args0 about1 = true := code_word (m := ⟨11, 0⟩) (meth := k11m0) (c := k11c0) (by decide +kernel) rfl rfl rfl (by decide +kernel)
def codes1 : List Jvm.Cond := [Jvm.Cond.code x code maxLocals ret, Jvm.Cond.code ({ cls := "com/example/onceward/onceward/HostPortEqualsPinLaw", name := "text", desc := "(ICC)Ljava/lang/String;" } : Jvm.MethodName) method_2_code (4 : Nat) (Option.some (Jvm.ClassFile.FieldType.object "java/lang/String")), Jvm.Cond.code ({ cls := "com/example/onceward/onceward/HostPort", name := "<init>", desc := "(Ljava/lang/String;I)V" } : Jvm.MethodName) prog_9_method_1_code (3 : Nat) (Option.none : Option Jvm.ClassFile.FieldType), Jvm.Cond.code ({ cls := "java/lang/Object", name := "<init>", desc := "()V" } : Jvm.MethodName) object_method_1_code (1 : Nat) (Option.none : Option Jvm.ClassFile.FieldType), Jvm.Cond.code ({ cls := "com/example/onceward/onceward/HostPort", name := "equals", desc := "(Ljava/lang/Object;)Z" } : Jvm.MethodName) prog_9_method_5_code (2 : Nat) (Option.some Jvm.ClassFile.FieldType.boolean), Jvm.Cond.code ({ cls := "java/lang/String", name := "equals", desc := "(Ljava/lang/Object;)Z" } : Jvm.MethodName) jdk_42_method_66_code (3 : Nat) (Option.some Jvm.ClassFile.FieldType.boolean), Jvm.Cond.code ({ cls := "java/lang/String", name := "<init>", desc := "([C)V" } : Jvm.MethodName) jdk_42_method_3_code (2 : Nat) (Option.none : Option Jvm.ClassFile.FieldType), Jvm.Cond.code ({ cls := "java/lang/String", name := "<init>", desc := "([CIILjava/lang/Void;)V" } : Jvm.MethodName) jdk_42_method_149_code (6 : Nat) (Option.none : Option Jvm.ClassFile.FieldType), Jvm.Cond.code ({ cls := "java/lang/StringUTF16", name := "compress", desc := "([CII)[B" } : Jvm.MethodName) jdk_52_method_16_code (6 : Nat) (Option.some (Jvm.ClassFile.FieldType.array Jvm.ClassFile.FieldType.byte)), Jvm.Cond.code ({ cls := "java/lang/StringUTF16", name := "compress", desc := "([CI[BII)I" } : Jvm.MethodName) jdk_52_method_21_code (7 : Nat) (Option.some Jvm.ClassFile.FieldType.int), Jvm.Cond.code ({ cls := "java/lang/StringUTF16", name := "coderFromArrayLen", desc := "([BI)B" } : Jvm.MethodName) jdk_52_method_15_code (2 : Nat) (Option.some Jvm.ClassFile.FieldType.byte), Jvm.Cond.code ({ cls := "java/lang/StringLatin1", name := "equals", desc := "([B[B)Z" } : Jvm.MethodName) jdk_43_method_13_code (3 : Nat) (Option.some Jvm.ClassFile.FieldType.boolean), Jvm.Cond.code ({ cls := "java/lang/String", name := "valueOf", desc := "(C)Ljava/lang/String;" } : Jvm.MethodName) jdk_42_method_139_code (1 : Nat) (Option.some (Jvm.ClassFile.FieldType.object "java/lang/String")), Jvm.Cond.code ({ cls := "java/lang/StringLatin1", name := "canEncode", desc := "(C)Z" } : Jvm.MethodName) jdk_43_method_3_code (1 : Nat) (Option.some Jvm.ClassFile.FieldType.boolean), Jvm.Cond.code ({ cls := "java/lang/StringLatin1", name := "toBytes", desc := "(C)[B" } : Jvm.MethodName) jdk_43_method_46_code (1 : Nat) (Option.some (Jvm.ClassFile.FieldType.array Jvm.ClassFile.FieldType.byte)), Jvm.Cond.code ({ cls := "java/lang/String", name := "<init>", desc := "([BB)V" } : Jvm.MethodName) jdk_42_method_151_code (3 : Nat) (Option.none : Option Jvm.ClassFile.FieldType), Jvm.Cond.code ({ cls := "java/lang/Integer", name := "valueOf", desc := "(I)Ljava/lang/Integer;" } : Jvm.MethodName) jdk_33_method_22_code (1 : Nat) (Option.some (Jvm.ClassFile.FieldType.object "java/lang/Integer")), Jvm.Cond.code ({ cls := "java/lang/Integer", name := "<init>", desc := "(I)V" } : Jvm.MethodName) jdk_33_method_23_code (2 : Nat) (Option.none : Option Jvm.ClassFile.FieldType), Jvm.Cond.code ({ cls := "java/lang/Number", name := "<init>", desc := "()V" } : Jvm.MethodName) jdk_18_method_1_code (1 : Nat) (Option.none : Option Jvm.ClassFile.FieldType)]
set_option maxRecDepth 65536 in
theorem codes_eq : words1.filter isCode = codes1 := rfl
theorem w_codes : ∀ c ∈ words1.filter isCode, c.before args0 about1 = true := by
  rw [codes_eq]
  intro c hc
  simp only [codes1, List.mem_cons, List.not_mem_nil, or_false] at hc
  rcases hc with rfl | rfl | rfl | rfl | rfl | rfl | rfl | rfl | rfl | rfl | rfl | rfl | rfl | rfl | rfl | rfl | rfl | rfl | rfl
  · exact w_c0
  · exact w_c1
  · exact w_c2
  · exact w_c3
  · exact w_c4
  · exact w_c5
  · exact w_c6
  · exact w_c7
  · exact w_c8
  · exact w_c9
  · exact w_c10
  · exact w_c11
  · exact w_c12
  · exact w_c13
  · exact w_c14
  · exact w_c15
  · exact w_c16
  · exact w_c17
  · exact w_c18
set_option maxRecDepth 65536 in
theorem w_t1 : (words1.take 24).all (fun c => isCode c || c.before args0 about1) = true := by decide +kernel
set_option maxRecDepth 65536 in
theorem w_t2 : ((words1.drop 24).take 24).all (fun c => isCode c || c.before args0 about1) = true := by decide +kernel
set_option maxRecDepth 65536 in
theorem w_t3 : (((words1.drop 24).drop 24).take 24).all (fun c => isCode c || c.before args0 about1) = true := by decide +kernel
set_option maxRecDepth 65536 in
theorem w_t4 : ((((words1.drop 24).drop 24).drop 24).take 24).all (fun c => isCode c || c.before args0 about1) = true := by decide +kernel
set_option maxRecDepth 65536 in
theorem w_t5 : ((((words1.drop 24).drop 24).drop 24).drop 24).all (fun c => isCode c || c.before args0 about1) = true := by decide +kernel
theorem w_tables : (allAtoms (Jvm.Cond.code x code maxLocals ret :: tables_1)).before args0 about1 = true := by
  rw [allAtoms_all]
  show words1.all (fun c => c.before args0 about1) = true
  refine all_split ?_ w_codes
  rw [← List.take_append_drop 24 words1, List.all_append, w_t1, ← List.take_append_drop 24 (words1.drop 24), List.all_append, w_t2, ← List.take_append_drop 24 ((words1.drop 24).drop 24), List.all_append, w_t3, ← List.take_append_drop 24 (((words1.drop 24).drop 24).drop 24), List.all_append, w_t4, w_t5]
  rfl
set_option maxRecDepth 65536 in
theorem w_rest : rest_1_c.before args0 about1 = true := by decide +kernel
set_option maxRecDepth 65536 in
theorem w_case : (Jvm.Cond.and given_1 narrow_1).before args0 about1 = true := by decide +kernel
set_option maxRecDepth 65536 in
theorem w_consts : constsHeld consts_1 about1 := Jvm.Lit.constsHeldB_iff.mp (by decide +kernel)
theorem w_applies : (headSpec (Jvm.Cond.code x code maxLocals ret :: tables_1) room_1).applies x e0.platform about1 = true :=
  (Spec.applies_iff w_frames).mpr ⟨w_running, w_runnable, w_alone, w_named, w_hears, w_ripe, w_room, w_tables⟩
theorem atStart : AtStart classFile x code maxLocals ret World_1 tables_1 room_1 Calls_1 rest_1 Pre_1 launch0 p0 e0 about1 theMethod args0 below0 :=
  ⟨lists_1, trivial, launch0.admits_env _ _ _, launch0.least_env, fairChoices_fair.cas, fairChoices_fair.clock, w_frames, w_args, w_heap, w_applies, ⟨w_consts, trivial⟩, w_rest, w_case⟩
end start1
theorem witness_1 : WitnessClaimed_1 := ⟨start1.p0, start1.e0, start1.about1, start1.theMethod, start1.args0, start1.below0, start1.atStart⟩
end Jvm.Pilot.@@N@@
